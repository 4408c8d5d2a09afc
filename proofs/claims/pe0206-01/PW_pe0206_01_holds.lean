import PyProof.Rows.All
import Wide.All
import OpenK.AllK
import Wide.FinOn
import PySem.Challenge.RW_pe0206_01
set_option Elab.async false
set_option compiler.extract_closed false
section
open PySem PySem.W PyProof.Rows
set_option maxRecDepth 100000
set_option maxHeartbeats 8000000
namespace Mine
/-- what the def at a place of the text bears -/
noncomputable def nth (i : Nat) : Arguments × List Stmt × Scope := match PySem.Challenge.pw_pe0206_01.main.body[i]? with
  | some (.FunctionDef _ a b _ _ _ s _ _ _) => (a, b, s)
  | _ => (default, [], default)
noncomputable def K : Params → Frag := (fun {p21 b21 s21} (_ : nth 2 = (p21, b21, s21)) {p28 b28 s28} (_ : nth 3 = (p28, b28, s28)) {p35 b35 s35} (_ : nth 4 = (p35, b35, s35)) {p42 b42 s42} (_ : nth 5 = (p42, b42, s42)) {p49 b49 s49} (_ : nth 6 = (p49, b49, s49)) {p56 b56 s56} (_ : nth 7 = (p56, b56, s56)) {p65 b65 s65} (_ : nth 9 = (p65, b65, s65)) {p74 b74 s74} (_ : nth 10 = (p74, b74, s74)) {p81 b81 s81} (_ : nth 12 = (p81, b81, s81)) {p88 b88 s88} (_ : nth 13 = (p88, b88, s88)) {p95 b95 s95} (_ : nth 14 = (p95, b95, s95)) {p100 b100 s100} (_ : nth 16 = (p100, b100, s100)) {p105 b105 s105} (_ : nth 17 = (p105, b105, s105)) {p112 b112 s112} (_ : nth 18 = (p112, b112, s112)) {p119 b119 s119} (_ : nth 19 = (p119, b119, s119)) {p126 b126 s126} (_ : nth 20 = (p126, b126, s126)) {p133 b133 s133} (_ : nth 21 = (p133, b133, s133)) {p140 b140 s140} (_ : nth 22 = (p140, b140, s140)) {p145 b145 s145} (_ : nth 23 = (p145, b145, s145)) {p150 b150 s150} (_ : nth 24 = (p150, b150, s150)) (P : Params) =>
  (nat_lit 2, { cls := .none, data := .dict #[] }) ::
  (nat_lit 3, { cls := .type "dict", data := .dict #[⟨PyData.keyHash P "__name__", .str "__name__" 165, (.str "law_pe0206_01" 339)⟩, ⟨PyData.keyHash P "__doc__", .str "__doc__" 166, .none⟩, ⟨PyData.keyHash P "__package__", .str "__package__" 167, .none⟩, ⟨PyData.keyHash P "__loader__", .str "__loader__" 168, (.builtin "__main__.__loader__#opaque")⟩, ⟨PyData.keyHash P "__spec__", .str "__spec__" 169, .none⟩, ⟨PyData.keyHash P "__annotations__", .str "__annotations__" 170, (.ref 6)⟩, ⟨PyData.keyHash P "__builtins__", .str "__builtins__" 171, (.ref 4)⟩, ⟨PyData.keyHash P "__file__", .str "__file__" 173, (.str "/claim/cut.py" 172)⟩, ⟨PyData.keyHash P "__cached__", .str "__cached__" 174, .none⟩, ⟨PyData.keyHash P "_DIV_LIMIT", .str "_DIV_LIMIT" 190, (.int 4000 189)⟩, ⟨PyData.keyHash P "_div2n1n", .str "_div2n1n" 207, (.ref 21)⟩, ⟨PyData.keyHash P "_div3n2n", .str "_div3n2n" 221, (.ref 28)⟩, ⟨PyData.keyHash P "_int2digits", .str "_int2digits" 232, (.ref 35)⟩, ⟨PyData.keyHash P "_digits2int", .str "_digits2int" 243, (.ref 42)⟩, ⟨PyData.keyHash P "_divmod_pos", .str "_divmod_pos" 258, (.ref 49)⟩, ⟨PyData.keyHash P "int_divmod", .str "int_divmod" 268, (.ref 56)⟩, ⟨PyData.keyHash P "bisect_right", .str "bisect_right" 284, (.ref 65)⟩, ⟨PyData.keyHash P "bisect_left", .str "bisect_left" 298, (.ref 74)⟩, ⟨PyData.keyHash P "add_func_stats", .str "add_func_stats" 318, (.ref 81)⟩, ⟨PyData.keyHash P "add_callers", .str "add_callers" 329, (.ref 88)⟩, ⟨PyData.keyHash P "count_calls", .str "count_calls" 338, (.ref 95)⟩, ⟨PyData.keyHash P "_law_counts", .str "_law_counts" 346, (.ref 100)⟩, ⟨PyData.keyHash P "_law_bounds", .str "_law_bounds" 352, (.ref 105)⟩, ⟨PyData.keyHash P "_law_refused", .str "_law_refused" 360, (.ref 112)⟩, ⟨PyData.keyHash P "_law_owners", .str "_law_owners" 375, (.ref 119)⟩, ⟨PyData.keyHash P "_law_row", .str "_law_row" 387, (.ref 126)⟩, ⟨PyData.keyHash P "_law_profile", .str "_law_profile" 399, (.ref 133)⟩, ⟨PyData.keyHash P "_law_firsts", .str "_law_firsts" 408, (.ref 140)⟩, ⟨PyData.keyHash P "_law_told", .str "_law_told" 414, (.ref 145)⟩, ⟨PyData.keyHash P "law", .str "law" 420, (.ref 150)⟩] 30 }) ::
  (nat_lit 15, { cls := .type "tuple", data := .seq #[] }) ::
  (nat_lit 17, { cls := .type "tuple", data := .seq #[.str "a" 194, .str "b" 195, .str "n" 196, .str "pad" 197, .str "half_n" 198, .str "mask" 199, .str "b1" 200, .str "b2" 201, .str "q1" 202, .str "r" 203, .str "q2" 204] }) ::
  (nat_lit 18, { cls := .type "tuple", data := .seq #[] }) ::
  (nat_lit 20, { cls := .type "code", data := .fields #[.str "_div2n1n" 191, .str "_div2n1n" 192, .str "/claim/cut.py" 193, .int 3 0, .int 3 0, .int 0 0, .int 0 0, .int 3 0, .ref 15, .bool true, .int 181 0, .ref 16, .none, .ref 17, .ref 18, .ref 19, .int 205 0, .int 3 0, .str "/claim/cut.py" 206] }) ::
  (nat_lit 21, { cls := .type "function", data := .func { name := "_div2n1n", qualname := "_div2n1n", params := p21, body := .stmts b21, scope := s21, globals := 3, closure := [], defaults := .none, kwdefaults := .none, pyModule := .str "cpy313._pylong" 187, code := .ref 20 } }) ::
  (nat_lit 22, { cls := .type "tuple", data := .seq #[] }) ::
  (nat_lit 24, { cls := .type "tuple", data := .seq #[.str "a12" 211, .str "a3" 212, .str "b" 213, .str "b1" 214, .str "b2" 215, .str "n" 216, .str "q" 217, .str "r" 218] }) ::
  (nat_lit 25, { cls := .type "tuple", data := .seq #[] }) ::
  (nat_lit 27, { cls := .type "code", data := .fields #[.str "_div3n2n" 208, .str "_div3n2n" 209, .str "/claim/cut.py" 210, .int 19 0, .int 6 0, .int 0 0, .int 0 0, .int 3 0, .ref 22, .bool true, .int 181 0, .ref 23, .none, .ref 24, .ref 25, .ref 26, .int 219 0, .int 19 0, .str "/claim/cut.py" 220] }) ::
  (nat_lit 28, { cls := .type "function", data := .func { name := "_div3n2n", qualname := "_div3n2n", params := p28, body := .stmts b28, scope := s28, globals := 3, closure := [], defaults := .none, kwdefaults := .none, pyModule := .str "cpy313._pylong" 187, code := .ref 27 } }) ::
  (nat_lit 29, { cls := .type "tuple", data := .seq #[] }) ::
  (nat_lit 31, { cls := .type "tuple", data := .seq #[.str "a" 225, .str "n" 226] }) ::
  (nat_lit 32, { cls := .type "tuple", data := .seq #[.str "n" 227, .str "a_digits" 228, .str "inner" 229] }) ::
  (nat_lit 34, { cls := .type "code", data := .fields #[.str "_int2digits" 222, .str "_int2digits" 223, .str "/claim/cut.py" 224, .int 29 0, .int 2 0, .int 0 0, .int 0 0, .int 3 0, .ref 29, .bool true, .int 181 0, .ref 30, .none, .ref 31, .ref 32, .ref 33, .int 230 0, .int 29 0, .str "/claim/cut.py" 231] }) ::
  (nat_lit 35, { cls := .type "function", data := .func { name := "_int2digits", qualname := "_int2digits", params := p35, body := .stmts b35, scope := s35, globals := 3, closure := [], defaults := .none, kwdefaults := .none, pyModule := .str "cpy313._pylong" 187, code := .ref 34 } }) ::
  (nat_lit 36, { cls := .type "tuple", data := .seq #[] }) ::
  (nat_lit 38, { cls := .type "tuple", data := .seq #[.str "digits" 236, .str "n" 237] }) ::
  (nat_lit 39, { cls := .type "tuple", data := .seq #[.str "digits" 238, .str "n" 239, .str "inner" 240] }) ::
  (nat_lit 41, { cls := .type "code", data := .fields #[.str "_digits2int" 233, .str "_digits2int" 234, .str "/claim/cut.py" 235, .int 45 0, .int 2 0, .int 0 0, .int 0 0, .int 3 0, .ref 36, .bool true, .int 181 0, .ref 37, .none, .ref 38, .ref 39, .ref 40, .int 241 0, .int 45 0, .str "/claim/cut.py" 242] }) ::
  (nat_lit 42, { cls := .type "function", data := .func { name := "_digits2int", qualname := "_digits2int", params := p42, body := .stmts b42, scope := s42, globals := 3, closure := [], defaults := .none, kwdefaults := .none, pyModule := .str "cpy313._pylong" 187, code := .ref 41 } }) ::
  (nat_lit 43, { cls := .type "tuple", data := .seq #[] }) ::
  (nat_lit 45, { cls := .type "tuple", data := .seq #[.str "a" 247, .str "b" 248, .str "n" 249, .str "a_digits" 250, .str "r" 251, .str "q_digits" 252, .str "a_digit" 253, .str "q_digit" 254, .str "q" 255] }) ::
  (nat_lit 46, { cls := .type "tuple", data := .seq #[] }) ::
  (nat_lit 48, { cls := .type "code", data := .fields #[.str "_divmod_pos" 244, .str "_divmod_pos" 245, .str "/claim/cut.py" 246, .int 54 0, .int 2 0, .int 0 0, .int 0 0, .int 3 0, .ref 43, .bool true, .int 181 0, .ref 44, .none, .ref 45, .ref 46, .ref 47, .int 256 0, .int 54 0, .str "/claim/cut.py" 257] }) ::
  (nat_lit 49, { cls := .type "function", data := .func { name := "_divmod_pos", qualname := "_divmod_pos", params := p49, body := .stmts b49, scope := s49, globals := 3, closure := [], defaults := .none, kwdefaults := .none, pyModule := .str "cpy313._pylong" 187, code := .ref 48 } }) ::
  (nat_lit 50, { cls := .type "tuple", data := .seq #[] }) ::
  (nat_lit 52, { cls := .type "tuple", data := .seq #[.str "a" 262, .str "b" 263, .str "q" 264, .str "r" 265] }) ::
  (nat_lit 53, { cls := .type "tuple", data := .seq #[] }) ::
  (nat_lit 55, { cls := .type "code", data := .fields #[.str "int_divmod" 259, .str "int_divmod" 260, .str "/claim/cut.py" 261, .int 65 0, .int 2 0, .int 0 0, .int 0 0, .int 3 0, .ref 50, .bool true, .int 181 0, .ref 51, .none, .ref 52, .ref 53, .ref 54, .int 266 0, .int 65 0, .str "/claim/cut.py" 267] }) ::
  (nat_lit 56, { cls := .type "function", data := .func { name := "int_divmod", qualname := "int_divmod", params := p56, body := .stmts b56, scope := s56, globals := 3, closure := [], defaults := .none, kwdefaults := .none, pyModule := .str "cpy313._pylong" 187, code := .ref 55 } }) ::
  (nat_lit 57, { cls := .type "tuple", data := .seq #[.int 0 271, .none] }) ::
  (nat_lit 58, { cls := .type "dict", data := .dict #[⟨PyData.keyHash P "key", .str "key" 272, .none⟩] 1 }) ::
  (nat_lit 59, { cls := .type "tuple", data := .seq #[] }) ::
  (nat_lit 61, { cls := .type "tuple", data := .seq #[.str "a" 276, .str "x" 277, .str "lo" 278, .str "hi" 279, .str "key" 280, .str "mid" 281] }) ::
  (nat_lit 62, { cls := .type "tuple", data := .seq #[] }) ::
  (nat_lit 64, { cls := .type "code", data := .fields #[.str "bisect_right" 273, .str "bisect_right" 274, .str "/claim/cut.py" 275, .int 77 0, .int 4 0, .int 0 0, .int 1 0, .int 3 0, .ref 59, .bool true, .int 181 0, .ref 60, .none, .ref 61, .ref 62, .ref 63, .int 282 0, .int 77 0, .str "/claim/cut.py" 283] }) ::
  (nat_lit 65, { cls := .type "function", data := .func { name := "bisect_right", qualname := "bisect_right", params := p65, body := .stmts b65, scope := s65, globals := 3, closure := [], defaults := .ref 57, kwdefaults := .ref 58, pyModule := .str "cpy313.bisect" 269, code := .ref 64 } }) ::
  (nat_lit 66, { cls := .type "tuple", data := .seq #[.int 0 285, .none] }) ::
  (nat_lit 67, { cls := .type "dict", data := .dict #[⟨PyData.keyHash P "key", .str "key" 286, .none⟩] 1 }) ::
  (nat_lit 68, { cls := .type "tuple", data := .seq #[] }) ::
  (nat_lit 70, { cls := .type "tuple", data := .seq #[.str "a" 290, .str "x" 291, .str "lo" 292, .str "hi" 293, .str "key" 294, .str "mid" 295] }) ::
  (nat_lit 71, { cls := .type "tuple", data := .seq #[] }) ::
  (nat_lit 73, { cls := .type "code", data := .fields #[.str "bisect_left" 287, .str "bisect_left" 288, .str "/claim/cut.py" 289, .int 97 0, .int 4 0, .int 0 0, .int 1 0, .int 3 0, .ref 68, .bool true, .int 181 0, .ref 69, .none, .ref 70, .ref 71, .ref 72, .int 296 0, .int 97 0, .str "/claim/cut.py" 297] }) ::
  (nat_lit 74, { cls := .type "function", data := .func { name := "bisect_left", qualname := "bisect_left", params := p74, body := .stmts b74, scope := s74, globals := 3, closure := [], defaults := .ref 66, kwdefaults := .ref 67, pyModule := .str "cpy313.bisect" 269, code := .ref 73 } }) ::
  (nat_lit 75, { cls := .type "tuple", data := .seq #[] }) ::
  (nat_lit 77, { cls := .type "tuple", data := .seq #[.str "target" 304, .str "source" 305, .str "cc" 306, .str "nc" 307, .str "tt" 308, .str "ct" 309, .str "callers" 310, .str "t_cc" 311, .str "t_nc" 312, .str "t_tt" 313, .str "t_ct" 314, .str "t_callers" 315] }) ::
  (nat_lit 78, { cls := .type "tuple", data := .seq #[] }) ::
  (nat_lit 80, { cls := .type "code", data := .fields #[.str "add_func_stats" 301, .str "add_func_stats" 302, .str "/claim/cut.py" 303, .int 118 0, .int 2 0, .int 0 0, .int 0 0, .int 3 0, .ref 75, .bool true, .int 181 0, .ref 76, .none, .ref 77, .ref 78, .ref 79, .int 316 0, .int 118 0, .str "/claim/cut.py" 317] }) ::
  (nat_lit 81, { cls := .type "function", data := .func { name := "add_func_stats", qualname := "add_func_stats", params := p81, body := .stmts b81, scope := s81, globals := 3, closure := [], defaults := .none, kwdefaults := .none, pyModule := .str "cpy313.pstats" 299, code := .ref 80 } }) ::
  (nat_lit 82, { cls := .type "tuple", data := .seq #[] }) ::
  (nat_lit 84, { cls := .type "tuple", data := .seq #[.str "target" 322, .str "source" 323, .str "new_callers" 324, .str "func" 325, .str "caller" 326] }) ::
  (nat_lit 85, { cls := .type "tuple", data := .seq #[] }) ::
  (nat_lit 87, { cls := .type "code", data := .fields #[.str "add_callers" 319, .str "add_callers" 320, .str "/claim/cut.py" 321, .int 122 0, .int 2 0, .int 0 0, .int 0 0, .int 3 0, .ref 82, .bool true, .int 181 0, .ref 83, .none, .ref 84, .ref 85, .ref 86, .int 327 0, .int 122 0, .str "/claim/cut.py" 328] }) ::
  (nat_lit 88, { cls := .type "function", data := .func { name := "add_callers", qualname := "add_callers", params := p88, body := .stmts b88, scope := s88, globals := 3, closure := [], defaults := .none, kwdefaults := .none, pyModule := .str "cpy313.pstats" 299, code := .ref 87 } }) ::
  (nat_lit 89, { cls := .type "tuple", data := .seq #[] }) ::
  (nat_lit 91, { cls := .type "tuple", data := .seq #[.str "callers" 333, .str "nc" 334, .str "calls" 335] }) ::
  (nat_lit 92, { cls := .type "tuple", data := .seq #[] }) ::
  (nat_lit 94, { cls := .type "code", data := .fields #[.str "count_calls" 330, .str "count_calls" 331, .str "/claim/cut.py" 332, .int 135 0, .int 1 0, .int 0 0, .int 0 0, .int 3 0, .ref 89, .bool true, .int 181 0, .ref 90, .none, .ref 91, .ref 92, .ref 93, .int 336 0, .int 135 0, .str "/claim/cut.py" 337] }) ::
  (nat_lit 95, { cls := .type "function", data := .func { name := "count_calls", qualname := "count_calls", params := p95, body := .stmts b95, scope := s95, globals := 3, closure := [], defaults := .none, kwdefaults := .none, pyModule := .str "cpy313.pstats" 299, code := .ref 94 } }) ::
  (nat_lit 96, { cls := .type "tuple", data := .seq #[] }) ::
  (nat_lit 99, { cls := .type "code", data := .fields #[.str "_law_counts" 341, .str "_law_counts" 342, .str "/claim/cut.py" 343, .int 141 0, .int 1 0, .int 0 0, .int 0 0, .int 3 0, .ref 96, .bool true, .int 181 0, .ref 97, .none, .none, .none, .ref 98, .int 344 0, .int 141 0, .str "/claim/cut.py" 345] }) ::
  (nat_lit 100, { cls := .type "function", data := .func { name := "_law_counts", qualname := "_law_counts", params := p100, body := .stmts b100, scope := s100, globals := 3, closure := [], defaults := .none, kwdefaults := .none, pyModule := .str "law_pe0206_01" 339, code := .ref 99 } }) ::
  (nat_lit 101, { cls := .type "tuple", data := .seq #[] }) ::
  (nat_lit 104, { cls := .type "code", data := .fields #[.str "_law_bounds" 347, .str "_law_bounds" 348, .str "/claim/cut.py" 349, .int 145 0, .int 2 0, .int 0 0, .int 0 0, .int 3 0, .ref 101, .bool true, .int 181 0, .ref 102, .none, .none, .none, .ref 103, .int 350 0, .int 145 0, .str "/claim/cut.py" 351] }) ::
  (nat_lit 105, { cls := .type "function", data := .func { name := "_law_bounds", qualname := "_law_bounds", params := p105, body := .stmts b105, scope := s105, globals := 3, closure := [], defaults := .none, kwdefaults := .none, pyModule := .str "law_pe0206_01" 339, code := .ref 104 } }) ::
  (nat_lit 106, { cls := .type "tuple", data := .seq #[] }) ::
  (nat_lit 108, { cls := .type "tuple", data := .seq #[.str "search" 356, .str "bounds" 357] }) ::
  (nat_lit 109, { cls := .type "tuple", data := .seq #[] }) ::
  (nat_lit 111, { cls := .type "code", data := .fields #[.str "_law_refused" 353, .str "_law_refused" 354, .str "/claim/cut.py" 355, .int 160 0, .int 2 0, .int 0 0, .int 0 0, .int 3 0, .ref 106, .bool true, .int 181 0, .ref 107, .none, .ref 108, .ref 109, .ref 110, .int 358 0, .int 160 0, .str "/claim/cut.py" 359] }) ::
  (nat_lit 112, { cls := .type "function", data := .func { name := "_law_refused", qualname := "_law_refused", params := p112, body := .stmts b112, scope := s112, globals := 3, closure := [], defaults := .none, kwdefaults := .none, pyModule := .str "law_pe0206_01" 339, code := .ref 111 } }) ::
  (nat_lit 113, { cls := .type "tuple", data := .seq #[] }) ::
  (nat_lit 115, { cls := .type "tuple", data := .seq #[.str "bounds" 364, .str "unit" 365, .str "start" 366, .str "grand" 367, .str "many" 368, .str "owners" 369, .str "k" 370, .str "tick" 371, .str "place" 372] }) ::
  (nat_lit 116, { cls := .type "tuple", data := .seq #[] }) ::
  (nat_lit 118, { cls := .type "code", data := .fields #[.str "_law_owners" 361, .str "_law_owners" 362, .str "/claim/cut.py" 363, .int 166 0, .int 5 0, .int 0 0, .int 0 0, .int 3 0, .ref 113, .bool true, .int 181 0, .ref 114, .none, .ref 115, .ref 116, .ref 117, .int 373 0, .int 166 0, .str "/claim/cut.py" 374] }) ::
  (nat_lit 119, { cls := .type "function", data := .func { name := "_law_owners", qualname := "_law_owners", params := p119, body := .stmts b119, scope := s119, globals := 3, closure := [], defaults := .none, kwdefaults := .none, pyModule := .str "law_pe0206_01" 339, code := .ref 118 } }) ::
  (nat_lit 120, { cls := .type "tuple", data := .seq #[] }) ::
  (nat_lit 122, { cls := .type "tuple", data := .seq #[.str "counts" 379, .str "start" 380, .str "grand" 381, .str "many" 382, .str "parts" 383, .str "i" 384] }) ::
  (nat_lit 123, { cls := .type "tuple", data := .seq #[] }) ::
  (nat_lit 125, { cls := .type "code", data := .fields #[.str "_law_row" 376, .str "_law_row" 377, .str "/claim/cut.py" 378, .int 183 0, .int 4 0, .int 0 0, .int 0 0, .int 3 0, .ref 120, .bool true, .int 181 0, .ref 121, .none, .ref 122, .ref 123, .ref 124, .int 385 0, .int 183 0, .str "/claim/cut.py" 386] }) ::
  (nat_lit 126, { cls := .type "function", data := .func { name := "_law_row", qualname := "_law_row", params := p126, body := .stmts b126, scope := s126, globals := 3, closure := [], defaults := .none, kwdefaults := .none, pyModule := .str "law_pe0206_01" 339, code := .ref 125 } }) ::
  (nat_lit 127, { cls := .type "tuple", data := .seq #[] }) ::
  (nat_lit 129, { cls := .type "tuple", data := .seq #[.str "owners" 391, .str "profile" 392, .str "k" 393, .str "name" 394, .str "caller" 395, .str "entry" 396] }) ::
  (nat_lit 130, { cls := .type "tuple", data := .seq #[] }) ::
  (nat_lit 132, { cls := .type "code", data := .fields #[.str "_law_profile" 388, .str "_law_profile" 389, .str "/claim/cut.py" 390, .int 188 0, .int 1 0, .int 0 0, .int 0 0, .int 3 0, .ref 127, .bool true, .int 181 0, .ref 128, .none, .ref 129, .ref 130, .ref 131, .int 397 0, .int 188 0, .str "/claim/cut.py" 398] }) ::
  (nat_lit 133, { cls := .type "function", data := .func { name := "_law_profile", qualname := "_law_profile", params := p133, body := .stmts b133, scope := s133, globals := 3, closure := [], defaults := .none, kwdefaults := .none, pyModule := .str "law_pe0206_01" 339, code := .ref 132 } }) ::
  (nat_lit 134, { cls := .type "tuple", data := .seq #[] }) ::
  (nat_lit 136, { cls := .type "tuple", data := .seq #[.str "row" 403, .str "firsts" 404, .str "one" 405] }) ::
  (nat_lit 137, { cls := .type "tuple", data := .seq #[] }) ::
  (nat_lit 139, { cls := .type "code", data := .fields #[.str "_law_firsts" 400, .str "_law_firsts" 401, .str "/claim/cut.py" 402, .int 196 0, .int 1 0, .int 0 0, .int 0 0, .int 3 0, .ref 134, .bool true, .int 181 0, .ref 135, .none, .ref 136, .ref 137, .ref 138, .int 406 0, .int 196 0, .str "/claim/cut.py" 407] }) ::
  (nat_lit 140, { cls := .type "function", data := .func { name := "_law_firsts", qualname := "_law_firsts", params := p140, body := .stmts b140, scope := s140, globals := 3, closure := [], defaults := .none, kwdefaults := .none, pyModule := .str "law_pe0206_01" 339, code := .ref 139 } }) ::
  (nat_lit 141, { cls := .type "tuple", data := .seq #[] }) ::
  (nat_lit 144, { cls := .type "code", data := .fields #[.str "_law_told" 409, .str "_law_told" 410, .str "/claim/cut.py" 411, .int 202 0, .int 1 0, .int 0 0, .int 0 0, .int 3 0, .ref 141, .bool true, .int 181 0, .ref 142, .none, .none, .none, .ref 143, .int 412 0, .int 202 0, .str "/claim/cut.py" 413] }) ::
  (nat_lit 145, { cls := .type "function", data := .func { name := "_law_told", qualname := "_law_told", params := p145, body := .stmts b145, scope := s145, globals := 3, closure := [], defaults := .none, kwdefaults := .none, pyModule := .str "law_pe0206_01" 339, code := .ref 144 } }) ::
  (nat_lit 146, { cls := .type "tuple", data := .seq #[] }) ::
  (nat_lit 149, { cls := .type "code", data := .fields #[.str "law" 415, .str "law" 416, .str "/claim/cut.py" 417, .int 211 0, .int 1 0, .int 0 0, .int 0 0, .int 3 0, .ref 146, .bool true, .int 181 0, .ref 147, .none, .none, .none, .ref 148, .int 418 0, .int 211 0, .str "/claim/cut.py" 419] }) ::
  (nat_lit 150, { cls := .type "function", data := .func { name := "law", qualname := "law", params := p150, body := .stmts b150, scope := s150, globals := 3, closure := [], defaults := .none, kwdefaults := .none, pyModule := .str "law_pe0206_01" 339, code := .ref 149 } }) :: []) rfl rfl rfl rfl rfl rfl rfl rfl rfl rfl rfl rfl rfl rfl rfl rfl rfl rfl rfl rfl
/-- the text without the names of its files and the two searches -/
noncomputable def view : Program := { PySem.Challenge.pw_pe0206_01 with main := { PySem.Challenge.pw_pe0206_01.main with body := [1, 2, 3, 4, 5, 6, 7, 12, 13, 14, 16, 17, 18, 19, 20, 21, 22, 23, 24].filterMap fun i => PySem.Challenge.pw_pe0206_01.main.body[i]? } }
noncomputable def adrs : List Addr := [2, 3, 15, 17, 18, 20, 21, 22, 24, 25, 27, 28, 29, 31, 32, 34, 35, 36, 38, 39, 41, 42, 43, 45, 46, 48, 49, 50, 52, 53, 55, 56, 57, 58, 59, 61, 62, 64, 65, 66, 67, 68, 70, 71, 73, 74, 75, 77, 78, 80, 81, 82, 84, 85, 87, 88, 89, 91, 92, 94, 95, 96, 99, 100, 101, 104, 105, 106, 108, 109, 111, 112, 113, 115, 116, 118, 119, 120, 122, 123, 125, 126, 127, 129, 130, 132, 133, 134, 136, 137, 139, 140, 141, 144, 145, 146, 149, 150]
theorem adrs_K : ∀ P, adrs = (K P).map (·.1) := fun _ => by kernel_rfl
noncomputable def hook : Hook := kmHook K adrs adrs_K [37, 30]
noncomputable def loose : List Str := ["bisect_right", "bisect_left"]
noncomputable def xt (s : Shared) : Bool := xlAt view [] s && recOk (RowW.records PySem.Challenge.rw_pe0206_01.row.toRowW) s
theorem left : LeftO PySem.Challenge.pw_pe0206_01 view loose xt hook.obs hook.val 1548 := by
  intro w
  kernel_rfl
theorem said : PySem.Challenge.rw_pe0206_01.wellSaid = true := by
  unfold OpenLaw.wellSaid OpenRow.wellSaid OpenRow.partSaid looksOpen
  (repeat' with_reducible refine look_both ?_ ?_) <;> decide +kernel
theorem chains : (chainsOk view && opensWell PySem.Challenge.pw_pe0206_01 && (frees PySem.Challenge.rw_pe0206_01.row.toRowW && PySem.Challenge.rw_pe0206_01.row.within.isEmpty)) = true := by decide +kernel
theorem hd {d : DefRec} {kwd : List (Str × Expr)} (hdef : defOf view PySem.Challenge.rw_pe0206_01.row.name = some (d, kwd)) (hp : PySem.Challenge.rw_pe0206_01.row.prog.theDef PySem.Challenge.rw_pe0206_01.row.name = some (d.params, d.body, d.scope)) (hk : kwWritten? d.params.kwonlyargs d.params.kw_defaults = some kwd)
    (walk : WalkO view loose (XL view []) (kmHook K adrs adrs_K [37, 30]).says PySem.Challenge.rw_pe0206_01.row.toRowW d kwd fun f vs => PySem.call f vs) : PySem.Challenge.rw_pe0206_01.Holds := by
  refine holds_law said fun _ => holds_open (q := view) (loose := loose) (Xt := xt) (XP := XL view []) (Yf := hook.obs) (Ya := hook.val) (YP := hook.says) (N := 1548) left hook.of hook.keeps (fun s e => xl_of s (Bool.and_eq_true_iff.mp e).1) XL.keeps hdef hp hk (fun s e => recFacts_of (Bool.and_eq_true_iff.mp e).2) (by rfl) (row_said said) chains ⟨rfl, rfl, rfl, rfl, rfl, by decide +kernel⟩ ?_ walk
  exact ⟨[.list []], by decide +kernel, by decide +kernel⟩
end Mine
end
section
open PySem PySem.W PyProof.Rows
namespace Mine
open Builtin.Int (intBits)
theorem p2pos (k : Nat) : (0 : Int) < 2 ^ k := kbt_pos k
theorem p2mono {j k : Nat} (h : j ≤ k) : (2 : Int) ^ j ≤ 2 ^ k := by
  rw [← kbt_cast, ← kbt_cast]
  exact Int.ofNat_le.mpr (Nat.pow_le_pow_right (by decide) h)
theorem bits_le {a : Int} {k : Nat} (h0 : 0 ≤ a) (h : a < 2 ^ k) : intBits a ≤ k := by
  rw [intBits_le_iff]
  have : ((2 ^ k : Nat) : Int) = (2 : Int) ^ k := kbt_cast k
  omega
theorem bits_gt {a : Int} {k : Nat} (h : 2 ^ k ≤ a) : k < intBits a := by
  refine Nat.lt_of_not_le fun q => ?_
  rw [intBits_le_iff] at q
  have : ((2 ^ k : Nat) : Int) = (2 : Int) ^ k := kbt_cast k
  omega
theorem lt_of_bits {a : Int} {k : Nat} (h : intBits a ≤ k) : a < 2 ^ k := by
  rw [intBits_le_iff] at h
  have : ((2 ^ k : Nat) : Int) = (2 : Int) ^ k := kbt_cast k
  omega
theorem le_of_bits {a : Int} {k : Nat} (h0 : 0 ≤ a) (h : k < intBits a) : 2 ^ k ≤ a := by
  refine Int.not_lt.mp fun q => ?_
  have := bits_le h0 q
  omega
theorem and_self' (x : Int) : Builtin.bitAnd x x = x := by
  have h1 := bitXor_and x x
  rw [bitXor_self] at h1
  omega
theorem and_zero (x : Int) : Builtin.bitAnd 0 x = 0 := by
  rw [bitAnd_comm]
  have h := bitXor_and x 0
  rw [bitXor_zero] at h
  omega
theorem and_shift (k : Nat) : ∀ x u : Int, Builtin.bitAnd x (u * 2 ^ k) = Builtin.bitAnd (x / 2 ^ k) u * 2 ^ k := by
  induction k with
  | zero => intro x u; simp
  | succ k ih =>
    intro x u
    rw [kbt_halves x]
    have e : u * 2 ^ (k + 1) = 2 * (u * 2 ^ k) := by rw [Int.pow_succ, ← Int.mul_assoc, Int.mul_comm]
    have e1 : u * 2 ^ (k + 1) / 2 = u * 2 ^ k := by omega
    have e2 : u * 2 ^ (k + 1) % 2 = 0 := by omega
    rw [e1, e2, ih]
    have e3 : x / 2 / 2 ^ k = x / 2 ^ (k + 1) := by
      rw [Int.ediv_ediv_of_nonneg (by decide), Int.pow_succ, Int.mul_comm]
    rw [e3, if_neg (by omega), Int.add_zero, Int.pow_succ]
    generalize Builtin.bitAnd (x / (2 ^ k * 2)) u = z
    generalize (2 : Int) ^ k = p
    rw [Int.mul_comm p 2, Int.mul_left_comm]
theorem or_and (x y : Int) : Builtin.bitOr x y = x + y - Builtin.bitAnd x y := by
  have h1 := bitXor_and x y
  have h2 : Builtin.bitXor x y = Builtin.bitOr x y - Builtin.bitAnd x y := rfl
  omega
theorem or_shift {q r : Int} {k : Nat} (h0 : 0 ≤ r) (h1 : r < 2 ^ k) : Builtin.bitOr (q * 2 ^ k) r = q * 2 ^ k + r := by
  rw [or_and, bitAnd_comm, and_shift, Int.ediv_eq_zero_of_lt h0 h1, and_zero]
  omega
theorem xor_low (x : Int) (k : Nat) : Builtin.bitXor x (x / 2 ^ k * 2 ^ k) = x % 2 ^ k := by
  rw [bitXor_and, and_shift, and_self']
  have := Int.emod_add_mul_ediv x (2 ^ k)
  rw [Int.mul_comm] at this
  omega
end Mine
end
section
open PySem PySem.W PyProof.Rows
namespace Mine
theorem div2_math {a b P : Int} (hb : 0 < b) (hP : 0 < P) (ha : 0 ≤ a) (hA : a < b * (P * P)) :
    a / P < b * P ∧ (a / P % b) * P + a % P < b * P ∧ 0 ≤ ((a / P % b) * P + a % P) / b ∧ ((a / P % b) * P + a % P) / b < P ∧
    (a / P) / b * P + ((a / P % b) * P + a % P) / b = a / b ∧ ((a / P % b) * P + a % P) % b = a % b := by
  have e1 := Int.emod_add_mul_ediv a P
  have e2 := Int.emod_nonneg a (Int.ne_of_gt hP)
  have e3 := Int.emod_lt_of_pos a hP
  have f0 := Int.ediv_nonneg ha (Int.le_of_lt hP)
  generalize hx : a / P = x at *
  generalize hy : a % P = y at *
  have g1 := Int.emod_add_mul_ediv x b
  have g2 := Int.emod_nonneg x (Int.ne_of_gt hb)
  have g3 := Int.emod_lt_of_pos x hb
  generalize hz : x / b = z at *
  generalize hu : x % b = u at *
  have k1 : x < b * P := by
    refine Int.lt_of_mul_lt_mul_left (a := P) ?_ (Int.le_of_lt hP)
    have : P * (b * P) = b * (P * P) := by grind
    omega
  have k2 : u * P + y < b * P := by
    have : (u + 1) * P ≤ b * P := Int.mul_le_mul_of_nonneg_right (by omega) (Int.le_of_lt hP)
    rw [Int.add_mul] at this
    omega
  have k0 : 0 ≤ u * P + y := by have := Int.mul_nonneg g2 (Int.le_of_lt hP); omega
  have k3 : 0 ≤ (u * P + y) / b := Int.ediv_nonneg k0 (Int.le_of_lt hb)
  have k4 : (u * P + y) / b < P := by
    refine Int.ediv_lt_of_lt_mul hb ?_
    rw [Int.mul_comm P b]; exact k2
  have m1 := Int.emod_add_mul_ediv (u * P + y) b
  have m2 := Int.emod_nonneg (u * P + y) (Int.ne_of_gt hb)
  have m3 := Int.emod_lt_of_pos (u * P + y) hb
  have hun := kbt_unique (a := a) (b := b) (q := z * P + (u * P + y) / b) (r := (u * P + y) % b) hb (by grind) m2 m3
  exact ⟨k1, k2, k3, k4, hun.1.symm, hun.2.symm⟩
theorem ediv_sq (a : Int) {P : Int} (hP : 0 < P) : a / (P * P) * P + a / P % P = a / P := by
  rw [← Int.ediv_ediv_of_nonneg (Int.le_of_lt hP)]
  have := Int.emod_add_mul_ediv (a / P) P
  rw [Int.mul_comm] at this
  omega
theorem dbl_div {a b : Int} (hb : 0 < b) : a * 2 / (b * 2) = a / b ∧ a * 2 % (b * 2) / 2 = a % b := by
  have e1 := Int.emod_add_mul_ediv a b
  have e2 := Int.emod_nonneg a (Int.ne_of_gt hb)
  have e3 := Int.emod_lt_of_pos a hb
  have hu := kbt_unique (a := a * 2) (b := b * 2) (q := a / b) (r := (a % b) * 2) (by omega) (by grind) (by omega) (by omega)
  rw [hu.1, hu.2]
  exact ⟨rfl, by omega⟩
theorem divmod_eq (b P : Int) : b = b / P * P + b % P := by
  have := Int.emod_add_mul_ediv b P
  rw [Int.mul_comm P] at this
  omega
theorem ediv_pos {b P : Int} (hP : 0 < P) (h : P ≤ b) : 0 < b / P := by
  have := Int.le_ediv_of_mul_le hP (a := 1) (b := b) (by omega)
  omega
end Mine
end
section
open PySem PySem.W PyProof.Rows
namespace Mine
/-- the k lowest figures of x to the base B -/
def digs (B : Int) : Int → Nat → List Int
  | _, 0 => []
  | x, k + 1 => x % B :: digs B (x / B) k
theorem digs_length (B : Int) : ∀ (k : Nat) (x : Int), (digs B x k).length = k
  | 0, _ => rfl
  | k + 1, x => by rw [digs, List.length_cons, digs_length B k]
theorem digs_add {B : Int} (hB : 0 < B) (k : Nat) : ∀ (j : Nat) (x : Int), digs B x (j + k) = digs B (x % B ^ j) j ++ digs B (x / B ^ j) k
  | 0, x => by simp [digs]
  | j + 1, x => by
    rw [Nat.add_right_comm, digs, digs, List.cons_append]
    have e1 : x % B ^ (j + 1) % B = x % B := Int.emod_emod_of_dvd x ⟨B ^ j, by rw [Int.pow_succ, Int.mul_comm]⟩
    have e2 : x % B ^ (j + 1) / B = x / B % B ^ j := by
      have hp : 0 < B ^ j := Int.pow_pos hB
      have q1 := Int.emod_add_mul_ediv x B
      have q2 := Int.emod_nonneg x (Int.ne_of_gt hB)
      have q3 := Int.emod_lt_of_pos x hB
      have r1 := Int.emod_add_mul_ediv (x / B) (B ^ j)
      have r2 := Int.emod_nonneg (x / B) (Int.ne_of_gt hp)
      have r3 := Int.emod_lt_of_pos (x / B) hp
      have s1 : x / B % B ^ j * B + x % B < B ^ (j + 1) := by
        have : (x / B % B ^ j + 1) * B ≤ B ^ j * B := Int.mul_le_mul_of_nonneg_right (by omega) (by omega)
        rw [Int.pow_succ, Int.add_mul] at *
        omega
      have s0 : 0 ≤ x / B % B ^ j * B + x % B := by have := Int.mul_nonneg r2 (Int.le_of_lt hB); omega
      have hu := kbt_unique (a := x) (b := B ^ (j + 1)) (q := x / B / B ^ j) (r := x / B % B ^ j * B + x % B) (Int.pow_pos hB) (by rw [Int.pow_succ]; grind) s0 s1
      rw [hu.2]
      have hv := kbt_unique (a := x / B % B ^ j * B + x % B) (b := B) (q := x / B % B ^ j) (r := x % B) hB (by rw [Int.mul_comm]; omega) q2 q3
      exact hv.1
    have e3 : x / B / B ^ j = x / B ^ (j + 1) := by
      rw [Int.ediv_ediv_of_nonneg (Int.le_of_lt hB), Int.pow_succ, Int.mul_comm]
    rw [e1, e2, digs_add hB k j (x / B), e3]
def seg (ns : List Int) (L R : Nat) (D : List Int) : List Int := ns.take L ++ D ++ ns.drop R
theorem seg_length {ns D : List Int} {L R : Nat} (h : L + D.length = R) (hR : R ≤ ns.length) : (seg ns L R D).length = ns.length := by
  simp only [seg, List.length_append, List.length_take, List.length_drop]
  omega
theorem seg_set {ns : List Int} {L : Nat} {x : Int} (h : L < ns.length) : ns.set L x = seg ns L (L + 1) [x] := by
  rw [List.set_eq_take_append_cons_drop, if_pos h]
  simp [seg]
theorem seg_seg {ns D₁ D₂ : List Int} {L M R : Nat} (h1 : L + D₁.length = M) (h2 : M ≤ R) (hR : R ≤ ns.length) : seg (seg ns L M D₁) M R D₂ = seg ns L R (D₁ ++ D₂) := by
  have hL : (ns.take L ++ D₁).length = M := by simp only [List.length_append, List.length_take]; omega
  unfold seg
  have e1 : (ns.take L ++ D₁ ++ ns.drop M).take M = ns.take L ++ D₁ := by
    rw [List.take_append_of_le_length (by omega), List.take_of_length_le (by omega)]
  have e2 : (ns.take L ++ D₁ ++ ns.drop M).drop R = ns.drop R := by
    rw [List.drop_append, hL, List.drop_eq_nil_of_le (by omega), List.nil_append, List.drop_drop]
    congr 1; omega
  rw [e1, e2, ← List.append_assoc]
end Mine
end
section
open PySem PySem.W PyProof.Rows
namespace Mine
/-- the number whose figures to the base B are the list's, the lowest first -/
def dval (B : Int) : List Int → Int
  | [] => 0
  | d :: r => d + B * dval B r
theorem dval_append (B : Int) : ∀ (xs ys : List Int), dval B (xs ++ ys) = dval B xs + B ^ xs.length * dval B ys
  | [], ys => by simp [dval]
  | x :: xs, ys => by
    rw [List.cons_append, dval, dval, dval_append B xs ys, List.length_cons, Int.pow_succ]
    grind
theorem dval_nonneg {B : Int} (hB : 0 < B) : ∀ {xs : List Int}, (∀ d ∈ xs, 0 ≤ d) → 0 ≤ dval B xs
  | [], _ => Int.le_refl _
  | x :: xs, h => by
    have h1 := h x (.head _)
    have h2 := dval_nonneg hB (xs := xs) fun d hd => h d (.tail _ hd)
    have := Int.mul_nonneg (Int.le_of_lt hB) h2
    rw [dval]; omega
theorem dval_lt {B : Int} (hB : 0 < B) : ∀ {xs : List Int}, (∀ d ∈ xs, d < B) → dval B xs < B ^ xs.length
  | [], _ => by simp [dval]
  | x :: xs, h => by
    have h1 := h x (.head _)
    have h2 := dval_lt hB (xs := xs) fun d hd => h d (.tail _ hd)
    have h3 : B * (dval B xs + 1) ≤ B * B ^ xs.length := Int.mul_le_mul_of_nonneg_left (by omega) (by omega)
    rw [Int.mul_add] at h3
    rw [dval, List.length_cons, Int.pow_succ, Int.mul_comm _ B]; omega
theorem digs_dval {B : Int} (hB : 0 < B) : ∀ {xs : List Int}, (∀ d ∈ xs, 0 ≤ d) → (∀ d ∈ xs, d < B) → digs B (dval B xs) xs.length = xs
  | [], _, _ => rfl
  | x :: xs, h0, h1 => by
    have a0 := h0 x (.head _)
    have a1 := h1 x (.head _)
    have e := kbt_unique (a := x + B * dval B xs) (b := B) (q := dval B xs) (r := x) hB rfl a0 a1
    rw [List.length_cons, digs, dval, e.1, e.2, digs_dval hB (fun d hd => h0 d (.tail _ hd)) fun d hd => h1 d (.tail _ hd)]
theorem dval_digs {B : Int} (hB : 0 < B) : ∀ (k : Nat) {x : Int}, 0 ≤ x → x < B ^ k → dval B (digs B x k) = x
  | 0, x, h0, h1 => by simp [digs, dval] at *; omega
  | k + 1, x, h0, h1 => by
    have e := Int.emod_add_mul_ediv x B
    rw [digs, dval, dval_digs hB k (Int.ediv_nonneg h0 (Int.le_of_lt hB)) (Int.ediv_lt_of_lt_mul hB (by rw [Int.pow_succ] at h1; exact h1))]
    exact e
theorem digs_range {B : Int} (hB : 0 < B) : ∀ (k : Nat) (x : Int), ∀ d ∈ digs B x k, 0 ≤ d ∧ d < B
  | 0, _, d, h => by cases h
  | k + 1, x, d, h => by
    rw [digs] at h
    rcases List.mem_cons.mp h with rfl | h
    · exact ⟨Int.emod_nonneg _ (Int.ne_of_gt hB), Int.emod_lt_of_pos _ hB⟩
    · exact digs_range hB k _ d h
def part (ns : List Int) (a b : Nat) : List Int := (ns.drop a).take (b - a)
theorem part_split {ns : List Int} {a m b : Nat} (h1 : a ≤ m) (h2 : m ≤ b) : part ns a b = part ns a m ++ part ns m b := by
  unfold part
  have e : ns.drop m = (ns.drop a).drop (m - a) := by rw [List.drop_drop]; congr 1; omega
  rw [e, show b - a = (m - a) + (b - m) by omega, List.take_add]
theorem part_length {ns : List Int} {a b : Nat} (h : b ≤ ns.length) : (part ns a b).length = b - a := by
  simp only [part, List.length_take, List.length_drop]; omega
theorem part_one {ns : List Int} {a : Nat} (h : a < ns.length) : part ns a (a + 1) = [ns.getD a 0] := by
  unfold part
  rw [List.drop_eq_getElem_cons h, show a + 1 - a = 1 by omega, List.getD_eq_getElem?_getD, List.getElem?_eq_getElem h]
  rfl
theorem part_mem {ns : List Int} {a b : Nat} {d : Int} (h : d ∈ part ns a b) : d ∈ ns := List.mem_of_mem_drop (List.mem_of_mem_take h)
theorem part_all {ns : List Int} : part ns 0 ns.length = ns := by simp [part]
end Mine
end
section
open PySem PySem.W PyProof.Rows
namespace Mine
open Builtin.Int (intBits)
theorem fig {B u f : Int} (hB : B = 1024 * u) (hu : 1024 ≤ u) (h : 0 ≤ f ∧ f ≤ 28 * u) : 0 ≤ f ∧ f < B := by omega
theorem fig2 {u a b : Int} (h : 0 ≤ a ∧ a ≤ 7 * u) (g : 0 ≤ b ∧ b ≤ 7 * u) : 0 ≤ a + b ∧ a + b ≤ 14 * u := by omega
theorem fig3 {u a b : Int} (h : 0 ≤ a ∧ a ≤ 14 * u) (g : 0 ≤ b ∧ b ≤ 7 * u) : 0 ≤ a + b ∧ a + b ≤ 21 * u := by omega
theorem fig4 {u a b : Int} (h : 0 ≤ a ∧ a ≤ 21 * u) (g : 0 ≤ b ∧ b ≤ 7 * u) : 0 ≤ a + b ∧ a + b ≤ 28 * u := by omega
theorem figU {u f : Int} {k : Int} (hu : 1024 ≤ u) (h : 0 ≤ f ∧ f ≤ k * u) (hk : k ≤ 28) : 0 ≤ f ∧ f ≤ 28 * u := ⟨h.1, Int.le_trans h.2 (Int.mul_le_mul_of_nonneg_right hk (by omega))⟩
theorem twice {p X : Int} (h : p * 2 ≤ X) (q : 0 < p) : p + 1 ≤ X := by omega
theorem bnd_math {B u f0 f1 f2 f3 f4 : Int} (hB : B = 1024 * u) (hu : 1024 ≤ u)
    (h4 : u ≤ f4 ∧ f4 ≤ 7 * u) (h3 : 0 ≤ f3 ∧ f3 ≤ 7 * u) (h2 : 0 ≤ f2 ∧ f2 ≤ 7 * u) (h1 : 0 ≤ f1 ∧ f1 ≤ 7 * u) (h0 : 0 ≤ f0 ∧ f0 ≤ 7 * u) :
    B ^ 4 + 1 ≤ dval B [f0, f1, f2, f3, f4] ∧ dval B [f0, f1, f2, f3, f4] < B ^ 5 ∧
    dval B [f0, f1, f2, f3, f4] / (B - 1) = dval B [f4 + f3 + f2 + f1, f4 + f3 + f2, f4 + f3, f4] ∧
    dval B [f0, f1, f2, f3, f4] % (B - 1) = f4 + f3 + f2 + f1 + f0 ∧
    B ^ 3 ≤ dval B [f4 + f3 + f2 + f1, f4 + f3 + f2, f4 + f3, f4] ∧ dval B [f4 + f3 + f2 + f1, f4 + f3 + f2, f4 + f3, f4] < B ^ 4 := by
  have hB0 : 0 < B := by omega
  have e := kbt_unique (a := dval B [f0, f1, f2, f3, f4]) (b := B - 1) (q := dval B [f4 + f3 + f2 + f1, f4 + f3 + f2, f4 + f3, f4]) (r := f4 + f3 + f2 + f1 + f0) (by omega) (by simp only [dval]; grind) (by omega) (by omega)
  have z4 : 0 ≤ f4 ∧ f4 ≤ 7 * u := ⟨Int.le_trans (Int.le_trans (by decide) hu) h4.1, h4.2⟩
  have z43 := fig2 z4 h3
  have z32 := fig3 z43 h2
  have z21 := fig4 z32 h1
  have w0 := fig hB hu (figU hu h0 (by decide))
  have w1 := fig hB hu (figU hu h1 (by decide))
  have w2 := fig hB hu (figU hu h2 (by decide))
  have w3 := fig hB hu (figU hu h3 (by decide))
  have w4 := fig hB hu (figU hu z4 (by decide))
  have w43 := fig hB hu (figU hu z43 (by decide))
  have w32 := fig hB hu (figU hu z32 (by decide))
  have w21 := fig hB hu z21
  have l5 := dval_lt hB0 (xs := [f0, f1, f2, f3, f4]) (by simp only [List.mem_cons, List.not_mem_nil, or_false]; rintro d (rfl | rfl | rfl | rfl | rfl) <;> (first | exact w0.2 | exact w1.2 | exact w2.2 | exact w3.2 | exact w4.2))
  have l4 := dval_lt hB0 (xs := [f4 + f3 + f2 + f1, f4 + f3 + f2, f4 + f3, f4]) (by simp only [List.mem_cons, List.not_mem_nil, or_false]; rintro d (rfl | rfl | rfl | rfl) <;> (first | exact w21.2 | exact w32.2 | exact w43.2 | exact w4.2))
  have g3 : B ^ 3 ≤ dval B [f4 + f3 + f2 + f1, f4 + f3 + f2, f4 + f3, f4] := by
    rw [show [f4 + f3 + f2 + f1, f4 + f3 + f2, f4 + f3, f4] = [f4 + f3 + f2 + f1, f4 + f3 + f2, f4 + f3] ++ [f4] from rfl, dval_append]
    have p : 0 ≤ dval B [f4 + f3 + f2 + f1, f4 + f3 + f2, f4 + f3] := dval_nonneg hB0 (by simp only [List.mem_cons, List.not_mem_nil, or_false]; rintro d (rfl | rfl | rfl) <;> (first | exact w21.1 | exact w32.1 | exact w43.1))
    have q : B ^ 3 * 1 ≤ B ^ 3 * f4 := Int.mul_le_mul_of_nonneg_left (by omega) (Int.le_of_lt (Int.pow_pos hB0))
    have : dval B [f4] = f4 := by simp [dval]
    rw [this, show [f4 + f3 + f2 + f1, f4 + f3 + f2, f4 + f3].length = 3 from rfl]
    omega
  have g4 : B ^ 4 * 2 ≤ dval B [f0, f1, f2, f3, f4] := by
    rw [show [f0, f1, f2, f3, f4] = [f0, f1, f2, f3] ++ [f4] from rfl, dval_append]
    have p : 0 ≤ dval B [f0, f1, f2, f3] := dval_nonneg hB0 (by simp only [List.mem_cons, List.not_mem_nil, or_false]; rintro d (rfl | rfl | rfl | rfl) <;> (first | exact w0.1 | exact w1.1 | exact w2.1 | exact w3.1))
    have q : B ^ 4 * 2 ≤ B ^ 4 * f4 := Int.mul_le_mul_of_nonneg_left (by omega) (Int.le_of_lt (Int.pow_pos hB0))
    have : dval B [f4] = f4 := by simp [dval]
    rw [this, show [f0, f1, f2, f3].length = 4 from rfl]
    omega
  have p4 : 0 < B ^ 4 := Int.pow_pos hB0
  exact ⟨twice g4 p4, l5, e.1, e.2, g3, l4⟩
theorem pow10 {W : Int} (h : 20 ≤ W) : (2 : Int) ^ W.toNat = 1024 * 2 ^ (W - 10).toNat ∧ 1024 ≤ (2 : Int) ^ (W - 10).toNat := by
  have e : W.toNat = (W - 10).toNat + 10 := by omega
  rw [e, Int.pow_add]
  refine ⟨by rw [Int.mul_comm]; rfl, ?_⟩
  have : (2 : Int) ^ 10 ≤ 2 ^ (W - 10).toNat := by
    rw [← kbt_cast, ← kbt_cast]
    exact Int.ofNat_le.mpr (Nat.pow_le_pow_right (by decide) (by omega))
  exact this
theorem bits_ones {n : Nat} (h : 1 ≤ n) : intBits (2 ^ n - 1) = n := by
  have hp : (2 : Int) ^ n = 2 * 2 ^ (n - 1) := by rw [show n = (n - 1) + 1 by omega, Int.pow_succ]; simp [Int.mul_comm]
  have p := kbt_pos (n - 1)
  refine Nat.le_antisymm (bits_le (by omega) (by omega)) ?_
  have := bits_gt (a := 2 ^ n - 1) (k := n - 1) (by omega)
  omega
theorem mulpow (n k : Nat) : (2 : Int) ^ (n * k) = (2 ^ n) ^ k := by rw [Int.pow_mul]
end Mine
end
section
open PySem PySem.W PyProof.Rows
set_option maxRecDepth 100000
set_option maxHeartbeats 8000000
namespace Mine
theorem kfill0 : (fun (_ : Params → Frag) (_ : OpenLaw) => True) Mine.K PySem.Challenge.rw_pe0206_01 := by
  k_fill
  trivial
abbrev Keep (h h' : Heap) : Prop := ∀ b o, h.get? b = some o → h'.get? b = some o
theorem Keep.rfl {h : Heap} : Keep h h := fun _ _ e => e
theorem Keep.trans {h h' h'' : Heap} (k : Keep h h') (k' : Keep h' h'') : Keep h h'' := fun b o e => k' b o (k b o e)
theorem frKeep {h₀ h h' : Heap} {L : Addr} {m : Str → Option Value} (F : Fr h₀ L h m) (k : Keep h h') : Fr h₀ L h' m :=
  ⟨F.ns.keeps k, fun b o e => k b o (F.keep b o e), F.above⟩
theorem newsKeep {h₀ h h' : Heap} {L : Addr} {news : List (Addr × Obj)} (N : News h₀ L h news) (k : Keep h h') : News h₀ L h' news :=
  fun p hp => ⟨k _ _ (N p hp).1, (N p hp).2⟩
theorem newsAdd {h₀ h h' : Heap} {L t : Addr} {o : Obj} {m : Str → Option Value} {news : List (Addr × Obj)} (F : Fr h₀ L h m) (N : News h₀ L h news) (k : Keep h h') (hn : h.get? t = none) (ho : h'.get? t = some o) : News h₀ L h' ((t, o) :: news) := by
  intro p hp
  rcases List.mem_cons.mp hp with rfl | hp
  · refine ⟨ho, fun e => ?_, ?_⟩
    · obtain ⟨oL, _, _, hL, _⟩ := F.ns
      rw [show t = L from e, hL] at hn; cases hn
    · cases q : h₀.get? t with
      | none => rfl
      | some o' => rw [F.keep _ _ q] at hn; cases hn
  · exact ⟨k _ _ (N p hp).1, (N p hp).2⟩
theorem newsDrop1 {h₀ h : Heap} {L : Addr} {a : Addr × Obj} {l : List (Addr × Obj)} (N : News h₀ L h (a :: l)) : News h₀ L h l := fun q hq => N q (.tail _ hq)
theorem newsDrop2 {h₀ h : Heap} {L : Addr} {a b : Addr × Obj} {l : List (Addr × Obj)} (N : News h₀ L h (a :: b :: l)) : News h₀ L h l := fun q hq => N q (.tail _ (.tail _ hq))
def AllNe (d : Nat) : List (Addr × Obj) → Prop
  | [] => True
  | p :: r => @Ne Nat p.1 d ∧ AllNe d r
theorem newsNe {h₀ h : Heap} {L t : Addr} (hn : h.get? t = none) : ∀ {news : List (Addr × Obj)}, News h₀ L h news → AllNe t news
  | [], _ => trivial
  | p :: _, N => by
    refine ⟨fun e => ?_, newsNe hn fun q hq => N q (.tail _ hq)⟩
    have q := (N p (.head _)).1
    rw [show p.1 = t from e, hn] at q
    cases q
theorem room0 {dp j n : Nat} (h : dp + j < n) : dp < n := Nat.lt_of_le_of_lt (Nat.le_add_right _ _) h
theorem roomK {dp j k n : Nat} (h : dp + j < n) (hk : k ≤ j) : dp + k < n := Nat.lt_of_le_of_lt (Nat.add_le_add_left hk _) h
/-- two addresses told apart by the ledger -/
theorem neA {d a : Addr} {o : Obj} : ∀ {news : List (Addr × Obj)}, AllNe d news → (a, o) ∈ news → @Ne Nat a d
  | _ :: _, h, .head _ => h.1
  | _ :: _, h, .tail _ m => neA h.2 m
theorem neB {d a : Addr} {o : Obj} {news : List (Addr × Obj)} (h : AllNe d news) (m : (a, o) ∈ news) : @Ne Nat d a := Ne.symm (neA h m)
theorem neC {d a : Addr} {o : Obj} : ∀ {news : List (Addr × Obj)}, AllLt d news → (a, o) ∈ news → @Ne Nat a d
  | _ :: _, h, .head _ => Nat.ne_of_lt h.1
  | _ :: _, h, .tail _ m => neC h.2 m
theorem neD {d a : Addr} {o : Obj} {news : List (Addr × Obj)} (h : AllLt d news) (m : (a, o) ∈ news) : @Ne Nat d a := Ne.symm (neC h m)
structure Up (a b : Nat) : Prop where
  get : a < b
theorem uBase {a : Nat} : Up a (a + 1) := ⟨Nat.lt_succ_self _⟩
theorem uUp {a b : Nat} (h : Up a b) : Up a (b + 1) := ⟨Nat.lt_succ_of_lt h.get⟩
theorem uL {a b : Nat} {R : Prop} (h : a < b ∧ R) : Up a b := ⟨h.1⟩
theorem uR {a b : Nat} {R : Prop} (h : R ∧ a < b) : Up a b := ⟨h.2⟩
theorem uI {a b : Nat} (h : a < b) : Up a b := ⟨h⟩
theorem uN {d a : Addr} {o : Obj} : ∀ {news : List (Addr × Obj)}, AllLt d news → (a, o) ∈ news → Up a d
  | _ :: _, h, .head _ => ⟨h.1⟩
  | _ :: _, h, .tail _ m => uN h.2 m
theorem sU {a b : Nat} (h : Up a b) : a ≠ b := Nat.ne_of_lt h.get
theorem sV {a b : Nat} (h : Up b a) : a ≠ b := Nat.ne_of_gt h.get
def Hold (P : Prop) : Prop := P
theorem cut {M : Model} {A : Around} {t : Sem Flow} {Q : Flow → Shared → Prop} {E : Value → Shared → Prop} {s : Shared} (P : Shared → Prop) (h : wpAny M A t (fun f s' => Hold (f = .next ∧ P s')) E s) (h2 : ∀ s', P s' → Q .next s') : wpAny M A t Q E s :=
  wpAny_mono h (fun _ s' ⟨e, q⟩ => e ▸ h2 s' q) fun _ _ x => x
/-- what stands behind a body held apart -/
theorem retQ {M : Model} {A : Around} {t : Sem Flow} {Q : Flow → Shared → Prop} {E : Value → Shared → Prop} {s : Shared} (h : ∀ (Q' : Flow → Shared → Prop) (E' : Value → Shared → Prop), (∀ v s', Q (.ret v) s' → Q' (.ret v) s') → wpAny M A t Q' E' s) : wpAny M A t Q E s := h Q E fun _ _ q => q
theorem atStop {P : Prop} (h : Hold P) : P := h
section
variable {prog : Program} {w : World} {A : Around} {E : Value → Shared → Prop} {s : Shared}
theorem whileH {test body orelse env pos} {Q : Flow → Shared → Prop} (I : Nat → Shared → Prop) (n : Nat) (h : I n s)
    (turn : ∀ n s, I n s →
      wpAny (model prog w) A (isTrue test env (eval test env)) (fun b s₂ =>
        if b then wpAny (model prog w) A (execs body env) (fun f s₃ => match f with
            | .next | .cont => Hold (∃ m, m < n ∧ I m s₃)
            | .brk => Q .next s₃
            | .ret v => Q (.ret v) s₃) (notedBy (model prog w) A env fun e s' => cameBackBy (model prog w) A env E e s') s₂
        else wpAny (model prog w) A (execs orelse env) (fun f s₃ => Q f s₃) (notedBy (model prog w) A env fun e s' => cameBackBy (model prog w) A env E e s') s₂)
        (notedBy (model prog w) A env fun e s' => cameBackBy (model prog w) A env E e s') s) :
    wpAny (model prog w) A (exec (.While test body orelse pos) env) Q E s :=
  wpAny_While (codeAny_whileLoop I turn n h)
theorem forH {target it body orelse env} {Q : Flow → Shared → Prop} (I : Nat → Shared → Prop) (n : Nat) (h : I n s)
    (turn : ∀ n s, I n s → wpAny (model prog w) A (pyNext it) (fun r s₁ => match r with
      | none => wpAny (model prog w) A (execs orelse env) (fun f s₃ => Q f s₃) (notedBy (model prog w) A env fun e s' => cameBackBy (model prog w) A env E e s') s₁
      | some v => wpAny (model prog w) A (assign target env v) (fun _ s₂ => wpAny (model prog w) A (execs body env) (fun f s₃ => match f with
          | .next | .cont => Hold (∃ m, m < n ∧ I m s₃)
          | .brk => Q .next s₃
          | .ret v => Q (.ret v) s₃) (notedBy (model prog w) A env fun e s' => cameBackBy (model prog w) A env E e s') s₂) (notedBy (model prog w) A env fun e s' => cameBackBy (model prog w) A env E e s') s₁) (notedBy (model prog w) A env fun e s' => cameBackBy (model prog w) A env E e s') s)
    (ht : ∀ v, letOwnedTupleGo target it v = pure ()) :
    codeAny (model prog w) A (.forLoop target it body orelse env) (fun r s' => match r with | .ok f => Q f s' | .error e => cameBackBy (model prog w) A env E e s') s :=
  codeAny_forLoop I turn n h ht
end
theorem ifswap {α : Type} {a b : Str} (h : a ≠ b) (u v : α) (f : Str → α) (y : Str) : (if y = a then u else if y = b then v else f y) = (if y = b then v else if y = a then u else f y) := by
  by_cases h1 : y = a
  · subst h1; simp [h]
  · simp [h1]
theorem ifdup {α : Type} {a : Str} (u v : α) (f : Str → α) (y : Str) : (if y = a then u else f y) = (if y = a then u else if y = a then v else f y) := by
  by_cases h1 : y = a <;> simp [h1]
theorem ifdup2 {α : Type} {a b : Str} (h : a ≠ b) (u v x z : α) (f : Str → α) (y : Str) : (if y = a then u else if y = b then v else f y) = (if y = a then u else if y = b then v else if y = a then x else if y = b then z else f y) := by
  by_cases h1 : y = a
  · simp [h1]
  · by_cases h2 : y = b <;> simp [h1, h2, Ne.symm h]
theorem frMap {h₀ h : Heap} {L : Addr} {m m' : Str → Option Value} (F : Fr h₀ L h m) (e : ∀ y, m' y = m y) : Fr h₀ L h m' := by
  have : m' = m := funext e
  rw [this]; exact F
abbrev AR (dp un : Nat) (fr : Option (List Env)) (gd : Option (List Code)) : Around := { handled := none, depth := dp, frames := fr, guards := gd, units := un }
abbrev tupObj (vs : List Value) : Obj := { cls := .type "tuple", data := .seq vs.toArray }
section
variable {prog : Program} {w : World} {A : Around} {s : Shared} {K : Frag} {p : Program} {loose : List Str} {mean : ExcName → Option Value} {mg mb : Str → Option Value}
  {name qual : Str} {params : Arguments} {body : List Stmt} {scope : Scope} {dV kV doc pm cdv ct oc : Value} {an od : Option Addr} {osl : Array (Option Value)} {f : Addr} {vals : List Value} {binds : List (Str × Value)}
  {Q : Value → Shared → Prop} {E : Value → Shared → Prop}
theorem enter (X : K.In s.heap) (T : Top p loose mean mg mb s.heap)
    (ho : K.lookup f = some ⟨oc, od, .func (fnOf name qual params body scope dV kV doc pm an cdv ct), osl⟩) (hcd : codeIn K cdv qual = true) (hroom : A.depth < recursionLimit)
    (hbind : BindsTo s (fnOf name qual params body scope dV kV doc pm an cdv ct) ⟨vals, []⟩ binds) (hloc : ∀ y ∈ binds, scope.names.lookup y.1 = some .local)
    (h : ∀ L' h₁, Fr s.heap L' h₁ (fun y => binds.reverse.lookup y) → News s.heap L' h₁ [] →
      wpAny (model prog w) (A.deeper (envOf qual scope L' f cdv)) (execs body (envOf qual scope L' f cdv))
        (fun fl s' => Q (match fl with | .ret v => v | _ => .none) s')
        (fun e s' => wpAny (model prog w) (A.deeper (envOf qual scope L' f cdv)) (leaving (envOf qual scope L' f cdv) e) (fun _ s'' => E e s'') (fun e' s'' => E e' s'') s')
        { s with heap := h₁, toks := s.toks + binds.length })
    (hco : scope.isCoroutine = false) (hgen : scope.isGenerator = false) (hk : scope.kind = .function)
    (hcell : ∀ x ∈ scope.names, x.2 ≠ .cell) : wpAny (model prog w) A (call (.ref f) vals) Q E s := by
  refine wpAny_call (codeAny_call_def (fd := fnOf name qual params body scope dV kV doc pm an cdv ct) (body := body) (binds := binds) hroom (X _ _ ho) rfl T.nolimit (codeRec_of X hcd) rfl hbind hcell hloc (fun h₁ hns hk₁ => ?_) hco hgen hk)
  exact h s.heap.objs.size h₁ ⟨hns, hk₁, Nat.le_refl _⟩ News.nil
end
end Mine
end
local macro_rules
  | `(tactic| lcg_off) => `(tactic| first | exact Mine.uBase | (refine' Mine.uN ?h ?m; (case h => with_reducible assumption); (case m => k_mem)) | (with_reducible first | exact Mine.uL (by assumption) | exact Mine.uR (by assumption) | exact Mine.uI (by assumption)) | (apply Mine.uUp; lcg_off))
  | `(tactic| k_ne) => `(tactic| (refine PySem.W.neN ?_; (try dsimp only); first | (with_reducible assumption) | (with_reducible apply Ne.symm; assumption) | (refine' Mine.neA ?h ?m; (case h => with_reducible assumption); (case m => k_mem)) | (refine' Mine.neB ?h ?m; (case h => with_reducible assumption); (case m => k_mem)) | (refine' Mine.neC ?h ?m; (case h => with_reducible assumption); (case m => k_mem)) | (refine' Mine.neD ?h ?m; (case h => with_reducible assumption); (case m => k_mem)) | (apply Mine.sU; lcg_off) | (apply Mine.sV; lcg_off)))
local macro_rules | `(tactic| walk_at "storeName") => `(tactic| (k_here; k_dflt (refine' PySem.W.storeX_L ?F ?N ?_ ?a ?b; (case F => k_asm); (case N => k_asm); (case a => rfl); (case b => rfl); k_whole; (try dsimp only); intro h' F' N'; (try k_sweep))))
local macro_rules | `(tactic| kfm_turns) => `(tactic| refine Mine.atStop ?_)
section
open PySem PySem.W PyProof.Rows
namespace Mine
open Builtin.Int (intBits)
theorem log2_of_bits {b : Int} {k : Nat} (hb : 0 < b) (h : b < 2 ^ k) : b.natAbs.log2 < k := by
  have h1 : intBits b ≤ k := bits_le (by omega) h
  unfold Builtin.Int.intBits at h1
  rw [if_neg (by simp; omega)] at h1
  omega
theorem szOf {a n : Int} {k : Nat} (h : intBits a ≤ k) (h2 : (k : Int) + n ≤ 134217728) : (intBits a : Int) + n ≤ 2 ^ 27 := by omega
theorem bits1 : intBits 1 ≤ 1 := by decide
section
variable {prog : Program} {w : World} {A : Around} {E : Value → Shared → Prop} {s : Shared} {a b n : Int} {t u : Tok} {Q : Value → Shared → Prop}
theorem rshiftE (hn : 0 ≤ n) (h : Q (.int (a / 2 ^ n.toNat) s.toks) { s with toks := s.toks + 1 }) : wpAny (model prog w) A (binaryOp .RShift (.int a t) (.int n u)) Q E s :=
  rshift_int hn (by rw [Int.fdiv_eq_ediv_of_nonneg _ (Int.le_of_lt (p2pos _))]; exact h)
theorem rshift2 {h : Int} (hq : Q (.int h s.toks) { s with toks := s.toks + 1 }) : wpAny (model prog w) A (binaryOp .RShift (.int (2 * h) t) (.int 1 u)) Q E s :=
  rshiftE (by decide) (by
    have : 2 * h / 2 ^ Int.toNat 1 = h := by show 2 * h / 2 = h; omega
    rw [this]; exact hq)
theorem irshift2 (hq : Q (.int (a / 2) s.toks) { s with toks := s.toks + 1 }) : wpAny (model prog w) A (inplaceOp .RShift (.int a t) (.int 1 u)) Q E s :=
  irshift_int (by decide) (by rw [Int.fdiv_eq_ediv_of_nonneg _ (Int.le_of_lt (p2pos _))]; exact hq)
theorem ilshift2 {k : Nat} (hz : intBits a ≤ k) (hk : k ≤ 1000000) (hq : Q (.int (a * 2) s.toks) { s with toks := s.toks + 1 }) : wpAny (model prog w) A (inplaceOp .LShift (.int a t) (.int 1 u)) Q E s :=
  ilshift_int (by decide) (by omega) hq
theorem iaddOdd {h : Int} (hq : Q (.int (2 * h) s.toks) { s with toks := s.toks + 1 }) : wpAny (model prog w) A (inplaceOp .Add (.int (2 * h - 1) t) (.int 1 u)) Q E s :=
  iadd_int (by rw [Int.sub_add_cancel]; exact hq)
theorem andMask {k : Nat} (h : Q (.int (a % 2 ^ k) s.toks) { s with toks := s.toks + 1 }) : wpAny (model prog w) A (binaryOp .BitAnd (.int a t) (.int (1 * 2 ^ k - 1) u)) Q E s :=
  and_int (by rw [Int.one_mul, kbt_mask]; exact h)
theorem andEven {h : Int} (hq : Q (.int 0 s.toks) { s with toks := s.toks + 1 }) : wpAny (model prog w) A (binaryOp .BitAnd (.int (2 * h) t) (.int 1 u)) Q E s :=
  and_int (by rw [bitAnd_m1, show 2 * h % 2 = 0 by omega]; exact hq)
theorem andOdd {h : Int} (hq : Q (.int 1 s.toks) { s with toks := s.toks + 1 }) : wpAny (model prog w) A (binaryOp .BitAnd (.int (2 * h - 1) t) (.int 1 u)) Q E s :=
  and_int (by rw [bitAnd_m1, show (2 * h - 1) % 2 = 1 by omega]; exact hq)
theorem orShift {k : Nat} (h0 : 0 ≤ b) (h1 : b < 2 ^ k) (h : Q (.int (a * 2 ^ k + b) s.toks) { s with toks := s.toks + 1 }) : wpAny (model prog w) A (binaryOp .BitOr (.int (a * 2 ^ k) t) (.int b u)) Q E s :=
  or_int (by rw [or_shift h0 h1]; exact h)
theorem xorLow {k : Nat} (h : Q (.int (a % 2 ^ k) s.toks) { s with toks := s.toks + 1 }) : wpAny (model prog w) A (binaryOp .BitXor (.int a t) (.int (a / 2 ^ k * 2 ^ k) u)) Q E s :=
  xor_int (by rw [xor_low]; exact h)
theorem fdivTo {v : Int} (hb : 0 < b) (hb2 : b.natAbs.log2 < 9000) (e : a / b = v) (h : Q (.int v s.toks) { s with toks := s.toks + 1 }) : wpAny (model prog w) A (binaryOp .FloorDiv (.int a t) (.int b u)) Q E s :=
  floordiv_int (by omega) (by rw [Int.fdiv_eq_ediv_of_nonneg _ (by omega), e]; exact h) (.inl (PyProof.noPylong_of_log2 hb2))
theorem rshift1 (hq : Q (.int (a / 2) s.toks) { s with toks := s.toks + 1 }) : wpAny (model prog w) A (binaryOp .RShift (.int a t) (.int 1 u)) Q E s :=
  rshiftE (by decide) hq
theorem bitLenTo (e : (intBits a : Int) = n) (h : Q (.int n s.toks) { s with toks := s.toks + 1 }) : wpAny (model prog w) A (call (.builtin "int.bit_length") [.int a t]) Q E s :=
  call_int_bit_length (by rw [e]; exact h)
end
end Mine
end
section
open PySem PySem.W PyProof.Rows
set_option maxRecDepth 100000
namespace Mine
theorem hideKeep {h₀ h : Heap} {hid : List (Addr × Obj)} (k : Keep h₀ h) (hn : ∀ p ∈ hid, h₀.get? p.1 = none) : Keep h₀ (hideAll h (hid.map (·.1))) := fun b o e => by
  refine hideAll_get _ (k b o e) fun q => ?_
  obtain ⟨p, hp, rfl⟩ := List.mem_map.mp q
  rw [hn p hp] at e; cases e
section
variable {prog : Program} {w : World} {A : Around} {s : Shared} {K : Frag} {p : Program} {loose : List Str} {mean : ExcName → Option Value} {mg mb : Str → Option Value} {h₀ : Heap}
  {name qual : Str} {params : Arguments} {body : List Stmt} {scope : Scope} {cl : List (Str × Addr)} {dV kV doc pm cdv ct oc : Value} {an od : Option Addr} {osl : Array (Option Value)} {fo : Obj} {f : Addr} {vals : List Value} {binds : List (Str × Value)}
  {Q : Value → Shared → Prop} {E : Value → Shared → Prop} {hid : List (Addr × Obj)}
/-- a def (also a nested one) entered, some objects set apart in the ledger -/
theorem enterN (X : K.In h₀) (T : Top p loose mean mg mb h₀) (k0 : Keep h₀ s.heap) (hh : ∀ p ∈ hid, s.heap.get? p.1 = some p.2) (hn : ∀ p ∈ hid, h₀.get? p.1 = none)
    (ho : s.heap.get? f = some fo) (hd : fo.data = .func (fnX name qual params body scope cl dV kV doc pm an cdv ct)) (hcd : s.heap.CodeRec cdv qual) (hroom : A.depth < recursionLimit)
    (hbind : BindsTo s (fnX name qual params body scope cl dV kV doc pm an cdv ct) ⟨vals, []⟩ binds) (hloc : ∀ y ∈ binds, scope.names.lookup y.1 = some .local)
    (h : ∀ g L' h₁, g = hideAll s.heap (hid.map (·.1)) → Fr g L' h₁ (fun y => binds.reverse.lookup y) → News g L' h₁ hid → K.In g → Top p loose mean mg mb g → Keep h₀ g → (∀ p ∈ hid, p.1 < L') →
      wpAny (model prog w) (A.deeper (envX qual scope L' f cdv cl)) (execs body (envX qual scope L' f cdv cl))
        (fun fl s' => Q (match fl with | .ret v => v | _ => .none) s')
        (fun e s' => wpAny (model prog w) (A.deeper (envX qual scope L' f cdv cl)) (leaving (envX qual scope L' f cdv cl) e) (fun _ s'' => E e s'') (fun e' s'' => E e' s'') s')
        { s with heap := h₁, toks := s.toks + binds.length })
    (hco : scope.isCoroutine = false) (hgen : scope.isGenerator = false) (hk : scope.kind = .function)
    (hcell : ∀ x ∈ scope.names, x.2 ≠ .cell) : wpAny (model prog w) A (call (.ref f) vals) Q E s := by
  have kg := hideKeep k0 hn
  refine wpAny_call (codeAny_call_def (fd := fnX name qual params body scope cl dV kV doc pm an cdv ct) (body := body) (binds := binds) hroom ho hd (T.nolimit.keeps k0) hcd rfl hbind hcell hloc (fun h₁ hns hk₁ => ?_) hco hgen hk)
  exact h _ s.heap.objs.size h₁ rfl ⟨hns, fun b o e => hk₁ b o (of_hideAll _ e), Nat.le_of_eq (hideAll_size _ _)⟩
    (fun p hp => ⟨hk₁ _ _ (hh p hp), Nat.ne_of_lt (Heap.lt_size (hh p hp)), hideAll_none _ (List.mem_map_of_mem hp)⟩) (X.keeps kg) (T.keeps kg) kg fun p hp => Heap.lt_size (hh p hp)
/-- a def of the top some of whose locals are captured -/
theorem enterC (X : K.In h₀) (T : Top p loose mean mg mb h₀) (k0 : Keep h₀ s.heap) (hh : ∀ p ∈ hid, s.heap.get? p.1 = some p.2) (hn : ∀ p ∈ hid, h₀.get? p.1 = none)
    (ho : K.lookup f = some ⟨oc, od, .func (fnX name qual params body scope [] dV kV doc pm an cdv ct), osl⟩) (hcd : codeIn K cdv qual = true) (hroom : A.depth < recursionLimit)
    (hbind : BindsTo s (fnX name qual params body scope [] dV kV doc pm an cdv ct) ⟨vals, []⟩ binds) (hkind : (binds.all fun y => scope.names.lookup y.1 == some .local || scope.names.lookup y.1 == some .cell) = true)
    (hnd : ((cellsFrom 0 scope.names []).map (·.1)).Nodup)
    (h : ∀ g L' h₁ tk cells, g = hideAll s.heap (hid.map (·.1)) → Fr g L' h₁ (bindL (envOfC qual scope L' f cdv).kindOf binds fun _ => none) → News g L' h₁ (cells ++ hid) →
      CellsAre (bindC (envOfC qual scope L' f cdv).kindOf binds fun _ => none) (cellsFrom (L' + 1) scope.names []) cells → K.In g → Top p loose mean mg mb g → Keep h₀ g → (∀ p ∈ hid, p.1 < L') →
      wpAny (model prog w) (A.deeper (envOfC qual scope L' f cdv)) (execs body (envOfC qual scope L' f cdv))
        (fun fl s' => Q (match fl with | .ret v => v | _ => .none) s')
        (fun e s' => wpAny (model prog w) (A.deeper (envOfC qual scope L' f cdv)) (leaving (envOfC qual scope L' f cdv) e) (fun _ s'' => E e s'') (fun e' s'' => E e' s'') s')
        { s with heap := h₁, toks := tk })
    (hco : scope.isCoroutine = false) (hgen : scope.isGenerator = false) (hk : scope.kind = .function) : wpAny (model prog w) A (call (.ref f) vals) Q E s := by
  have kg := hideKeep k0 hn
  have Xs := X.keeps k0
  refine wpAny_call (codeAny_call_function hroom (Xs _ _ ho) rfl hco hgen rfl (codeRec_of Xs hcd) (hbind _ _ _ _ ?_))
  refine wpAny_newFunctionEnv_cells hk (kindsX hkind _) fun env' he s' x => ?_
  subst he
  refine ⟨(T.nolimit.keeps k0).keeps x.toInCall.keep, codeAny_func ?_⟩
  obtain ⟨h₁, tk, rfl, _⟩ := x.done
  have hk₁ := x.toInCall.keep
  obtain ⟨cells, NC, Y⟩ := Cl.news (h₀ := s.heap) (Nat.le_refl _) fun n c hm => ⟨x.cell n c (lookup_of_mem_nodup (cellsFrom_names scope.names 0 (s.heap.objs.size + 1) [] [] rfl ▸ hnd) hm), x.above n c hm⟩
  refine h _ s.heap.objs.size h₁ tk cells rfl ⟨x.toInCall.ns, fun b o e => hk₁ b o (of_hideAll _ e), Nat.le_of_eq (hideAll_size _ _)⟩ (fun p hp => ?_) Y (X.keeps kg) (T.keeps kg) kg fun p hp => Heap.lt_size (hh p hp)
  rcases List.mem_append.mp hp with hp | hp
  · refine ⟨(NC p hp).1, (NC p hp).2.1, ?_⟩
    cases q : (hideAll s.heap (hid.map (·.1))).get? p.1 with
    | none => rfl
    | some o => have := of_hideAll _ q; rw [(NC p hp).2.2] at this; cases this
  · exact ⟨hk₁ _ _ (hh p hp), Nat.ne_of_lt (Heap.lt_size (hh p hp)), hideAll_none _ (List.mem_map_of_mem hp)⟩
end
end Mine
end
namespace Mine
theorem turn1 {M : PySem.Model} {A : PySem.Around} {E : PySem.Value → PySem.Shared → Prop} {s : PySem.Shared} {env : PySem.Env} {Q : PySem.Flow → PySem.Shared → Prop} (h : Q .next s) : PySem.wpAny M A (PySem.execs [] env) Q E s := by
  w_top off
  walk1
  exact h
end Mine
section
open PySem PySem.W PyProof.Rows
set_option maxRecDepth 100000
set_option maxHeartbeats 8000000
namespace Mine
open Builtin.Int (intBits)
local macro_rules
  | `(tactic| walk_at "binaryOp LShift int int") => `(tactic| (refine lshift_int (by omega) (szOf (by assumption) (by omega)) ?_; try dsimp only))
  | `(tactic| walk_at "binaryOp RShift int int") => `(tactic| (refine rshift_int (by omega) ?_; try dsimp only))
  | `(tactic| walk_at "binaryOp Mult int int") => `(tactic| (refine mul_int ?_ (IntMulOk.of_le (by assumption) (by assumption) (by omega)); try dsimp only))
  | `(tactic| walk_at "exec While") => `(tactic| kfm_turns)
section
variable {prog : Program} {w : World} {dp un : Nat} {fr : Option (List Env)} {gd : Option (List Code)} {s : Shared} {p : Program} {loose : List Str} {mean : ExcName → Option Value} {mg mb : Str → Option Value} {Q : Value → Shared → Prop} {E : Value → Shared → Prop}
  {h₀ : Heap} {L : Addr} {m : Str → Option Value} {news : List (Addr × Obj)}
theorem c_div_small0 {a b n : Int} {ta tb tn : Tok} (X : (Mine.K w.params).In s.heap) (T : Top p loose mean mg mb s.heap) (hroom : dp + 1 < recursionLimit)
   (h : (intBits a : Int) - n ≤ 4000) (hb : 0 < b) (hb2 : b < 2 ^ 9000)
   (ret : ∀ t tq tr h' tk', Keep s.heap h' → s.heap.get? t = none → h'.get? t = some (tupObj [.int (a / b) tq, .int (a % b) tr]) → Q (.ref t) { s with heap := h', toks := tk' }) :
   wpAny (model prog w) (AR dp un fr gd) (call (.ref 21) [.int a ta, .int b tb, .int n tn]) Q E s := by
  w_top off
  refine enter (binds := [("a", .int a ta), ("b", .int b tb), ("n", .int n tn)]) X T (by k_is) (by k_is) (by show dp < _; exact room0 hroom) (BindsTo.of_eq rfl) (locs rfl) ?_ rfl rfl rfl (by decide)
  intro L' h₁ F N
  refine retQ fun Q' E' hQ => ?_
  k_steps
  refine divmod_N F N (by omega) ?_ (.inl (PyProof.noPylong_of_log2 (log2_of_bits hb hb2)))
  intro h' F' N'
  rw [Int.fdiv_eq_ediv_of_nonneg _ (by omega), Int.fmod_eq_emod_of_nonneg _ (by omega)] at N'
  exact hQ _ _ (ret _ _ _ _ _ F'.keep (N'.fresh (by k_mem)) (N'.get (by k_mem)))
theorem c_div_small {a b n : Int} {ta tb tn : Tok} (F : Fr h₀ L s.heap m) (N : News h₀ L s.heap news) (X : (Mine.K w.params).In h₀) (T : Top p loose mean mg mb h₀) (hroom : dp + 1 < recursionLimit)
   (h : (intBits a : Int) - n ≤ 4000) (hb : 0 < b) (hb2 : b < 2 ^ 9000)
   (ret : ∀ t tq tr h' tk', Fr h₀ L h' m → News h₀ L h' ((t, tupObj [.int (a / b) tq, .int (a % b) tr]) :: news) → AllNe t news → Q (.ref t) { s with heap := h', toks := tk' }) :
   wpAny (model prog w) (AR dp un fr gd) (call (.ref 21) [.int a ta, .int b tb, .int n tn]) Q E s :=
  c_div_small0 (X.keeps F.keep) (T.keeps F.keep) hroom h hb hb2 fun _ _ _ _ _ k hn ho => ret _ _ _ _ _ (frKeep F k) (newsAdd F N k hn ho) (newsNe hn N)
theorem c_div3_0 {a12 a3 b b1 b2 n : Int} {t1 t2 t3 t4 t5 t6 : Tok} (X : (Mine.K w.params).In s.heap) (T : Top p loose mean mg mb s.heap) (hroom : dp + 2 < recursionLimit)
   (hn0 : 0 ≤ n) (hn : n ≤ 4000) (h12 : 0 ≤ a12) (h3 : 0 ≤ a3) (h3' : a3 < 2 ^ n.toNat) (hb1 : 0 < b1) (hb1' : b1 < 2 ^ n.toNat) (hb2 : 0 ≤ b2) (hb2' : b2 < 2 ^ n.toNat) (hb : b = b1 * 2 ^ n.toNat + b2)
   (hA : a12 * 2 ^ n.toNat + a3 < b * 2 ^ n.toNat)
   (ret : ∀ t tq tr h' tk', Keep s.heap h' → s.heap.get? t = none → h'.get? t = some (tupObj [.int ((a12 * 2 ^ n.toNat + a3) / b) tq, .int ((a12 * 2 ^ n.toNat + a3) % b) tr]) → Q (.ref t) { s with heap := h', toks := tk' }) :
   wpAny (model prog w) (AR dp un fr gd) (call (.ref 28) [.int a12 t1, .int a3 t2, .int b t3, .int b1 t4, .int b2 t5, .int n t6]) Q E s := by
  refine enter (binds := [("a12", .int a12 t1), ("a3", .int a3 t2), ("b", .int b t3), ("b1", .int b1 t4), ("b2", .int b2 t5), ("n", .int n t6)]) X T (by k_is) (by k_is) (by show dp < _; exact room0 hroom) (BindsTo.of_eq rfl) (locs rfl) ?_ rfl rfl rfl (by decide)
  intro L' h₁ F N
  refine retQ fun Q' E' hQ => ?_
  have hp := p2pos n.toNat
  have hb0 : 0 < b := by rw [hb]; have := Int.mul_pos hb1 hp; omega
  have h12b : a12 < b := by
    refine Int.lt_of_mul_lt_mul_right (a := 2 ^ n.toNat) ?_ (by omega)
    omega
  have hbb : b < 2 ^ (2 * n.toNat) := by
    have e : (2 : Int) ^ (2 * n.toNat) = 2 ^ n.toNat * 2 ^ n.toNat := by rw [Nat.two_mul, Int.pow_add]
    have h1 : (b1 + 1) * 2 ^ n.toNat ≤ 2 ^ n.toNat * 2 ^ n.toNat := Int.mul_le_mul_of_nonneg_right (by omega) (by omega)
    rw [Int.add_mul] at h1
    rw [e, hb]; omega
  have hzb1 : intBits b1 ≤ n.toNat := bits_le (by omega) hb1'
  have hzb2 : intBits b2 ≤ n.toNat := bits_le (by omega) hb2'
  have hz1 := bits1
  refine wpAny_execs_cons ?_
  refine cut (fun s' => ∃ h tk q r1 tq tr, s' = { s with heap := h, toks := tk } ∧ Fr s.heap L' h (fun y => if y = "r" then some (.int r1 tr) else if y = "q" then some (.int q tq) else
      List.lookup y ([("a12", .int a12 t1), ("a3", .int a3 t2), ("b", .int b t3), ("b1", .int b1 t4), ("b2", .int b2 t5), ("n", .int n t6)] : List (Str × Value)).reverse) ∧ News s.heap L' h [] ∧ 0 ≤ q ∧ q < 2 ^ (2 * n.toNat) ∧ 0 ≤ r1 ∧ r1 < 2 ^ (2 * n.toNat + 1) ∧
      (r1 * 2 ^ n.toNat + a3) - q * b2 + q * b = a12 * 2 ^ n.toNat + a3 ∧ (r1 * 2 ^ n.toNat + a3) - q * b2 < b) ?_ ?_
  · k_steps
    · rename (Int.fdiv _ _ = _) => hq
      rw [Int.fdiv_eq_ediv_of_nonneg _ (by omega)] at hq
      have e1 := Int.emod_add_mul_ediv a12 (2 ^ n.toNat)
      have e2 := Int.emod_nonneg a12 (b := 2 ^ n.toNat) (by omega)
      have e3 := Int.emod_lt_of_pos a12 hp
      rw [hq, Int.mul_comm] at e1
      have e4 : (2 : Int) ^ n.toNat ≤ 2 ^ (2 * n.toNat) := p2mono (by omega)
      have e5 : (2 : Int) ^ (2 * n.toNat + 1) = 2 ^ (2 * n.toNat) * 2 := Int.pow_succ _ _
      refine ⟨rfl, _, _, 1 * 2 ^ n.toNat - 1, a12 - b1 * 2 ^ n.toNat + b1, _, _, rfl, frMap (by assumption) (ifswap (by decide) _ _ _), News.nil, ?_, ?_, ?_, ?_, ?_, ?_⟩
      · omega
      · omega
      · omega
      · omega
      · rw [hb]
        grind
      · rw [hb] at hA ⊢
        grind
    · refine c_div_small (by k_asm) (by k_asm) X T (by show dp + 2 < _; exact roomK hroom (by decide)) ?_ hb1 ?_ ?_
      · have : intBits a12 ≤ 2 * n.toNat := bits_le h12 (by omega)
        omega
      · refine Int.lt_of_lt_of_le hb1' (p2mono (by omega))
      · intro t tq tr h' tk' F' N' l'
        k_steps
        have e1 := Int.emod_add_mul_ediv a12 b1
        have e2 := Int.emod_nonneg a12 (b := b1) (by omega)
        have e3 := Int.emod_lt_of_pos a12 hb1
        have e5 := Int.ediv_nonneg h12 (by omega : (0 : Int) ≤ b1)
        have e6 := Int.ediv_le_self b1 h12
        have e4 : (2 : Int) ^ n.toNat ≤ 2 ^ (2 * n.toNat + 1) := p2mono (by omega)
        refine ⟨rfl, _, _, a12 / b1, a12 % b1, _, _, rfl, (by assumption), News.nil, e5, by omega, e2, by omega, ?_, ?_⟩
        · rw [hb]
          grind
        · have h1 : (a12 % b1 + 1) * 2 ^ n.toNat ≤ b1 * 2 ^ n.toNat := Int.mul_le_mul_of_nonneg_right (by omega) (by omega)
          have h2 := Int.mul_nonneg e5 hb2
          grind
  · rintro s' ⟨h, tk, q, r1, tq, tr, rfl, F, N, hq, hq', hr, hr', e1, e2⟩
    have hzq : intBits q ≤ 2 * n.toNat := bits_le (by omega) hq'
    have hzr : intBits r1 ≤ 2 * n.toNat + 1 := bits_le (by omega) hr'
    dsimp only
    k_steps
    rename Fr _ _ _ _ => F'
    rw [or_shift h3 h3'] at F'
    refine whileH (fun k s' => ∃ h tk q r tq tr, s' = { s with heap := h, toks := tk } ∧ Fr s.heap L' h (fun y => if y = "r" then some (.int r tr) else if y = "q" then some (.int q tq) else
      List.lookup y ([("a12", .int a12 t1), ("a3", .int a3 t2), ("b", .int b t3), ("b1", .int b1 t4), ("b2", .int b2 t5), ("n", .int n t6)] : List (Str × Value)).reverse) ∧ News s.heap L' h [] ∧
      r + q * b = a12 * 2 ^ n.toNat + a3 ∧ r < b ∧ k = (-r).toNat) _ ⟨_, _, _, _, _, _, rfl, frMap F' (ifdup _ _ _), News.nil, e1, e2, rfl⟩ ?_
    clear F' e1 e2 hq hq' hr hr' hzq hzr
    rintro k s' ⟨h, tk, q, r, tq, tr, rfl, F, N, e1, e2, rfl⟩
    k_steps
    · exact ⟨_, by omega, _, _, q - 1, r + b, _, _, rfl, frMap (by assumption) (ifdup2 (by decide) _ _ _ _ _), News.nil, by rw [Int.sub_mul]; omega, by omega, rfl⟩
    · rename ¬ (r < 0) => hr
      have hu := kbt_unique (a := a12 * 2 ^ n.toNat + a3) (q := q) (r := r) hb0 (by rw [Int.mul_comm]; omega) (by omega) e2
      rw [hu.1, hu.2] at ret
      rename News _ _ _ _ => N'
      rename Fr _ _ _ _ => F'
      exact hQ _ _ (ret _ _ _ _ _ F'.keep (N'.fresh (by k_mem)) (N'.get (by k_mem)))
theorem c_div3 {a12 a3 b b1 b2 n : Int} {t1 t2 t3 t4 t5 t6 : Tok} (F : Fr h₀ L s.heap m) (N : News h₀ L s.heap news) (X : (Mine.K w.params).In h₀) (T : Top p loose mean mg mb h₀) (hroom : dp + 2 < recursionLimit)
   (hn0 : 0 ≤ n) (hn : n ≤ 4000) (h12 : 0 ≤ a12) (h3 : 0 ≤ a3) (h3' : a3 < 2 ^ n.toNat) (hb1 : 0 < b1) (hb1' : b1 < 2 ^ n.toNat) (hb2 : 0 ≤ b2) (hb2' : b2 < 2 ^ n.toNat) (hb : b = b1 * 2 ^ n.toNat + b2)
   {a' : Int} (ha' : a12 * 2 ^ n.toNat + a3 = a') (hA : a' < b * 2 ^ n.toNat)
   (ret : ∀ t tq tr h' tk', Fr h₀ L h' m → News h₀ L h' ((t, tupObj [.int (a' / b) tq, .int (a' % b) tr]) :: news) → AllNe t news → Q (.ref t) { s with heap := h', toks := tk' }) :
   wpAny (model prog w) (AR dp un fr gd) (call (.ref 28) [.int a12 t1, .int a3 t2, .int b t3, .int b1 t4, .int b2 t5, .int n t6]) Q E s :=
  c_div3_0 (X.keeps F.keep) (T.keeps F.keep) hroom hn0 hn h12 h3 h3' hb1 hb1' hb2 hb2' hb (by rw [ha']; exact hA) fun _ _ _ _ _ k hn ho => by rw [ha'] at ho; exact ret _ _ _ _ _ (frKeep F k) (newsAdd F N k hn ho) (newsNe hn N)
end
end Mine
end
namespace Mine
theorem turn2 {M : PySem.Model} {A : PySem.Around} {E : PySem.Value → PySem.Shared → Prop} {s : PySem.Shared} {env : PySem.Env} {Q : PySem.Flow → PySem.Shared → Prop} (h : Q .next s) : PySem.wpAny M A (PySem.execs [] env) Q E s := by
  w_top off
  walk1
  exact h
end Mine
section
open PySem PySem.W PyProof.Rows
set_option maxRecDepth 100000
set_option maxHeartbeats 8000000
namespace Mine
open Builtin.Int (intBits)
theorem dbl1 {h : Int} (h0 : 1 ≤ h) : (2 * h).toNat = h.toNat + h.toNat := by omega
theorem dbl2 {h : Int} (h0 : 1 ≤ h) : (2 * h - 1).toNat.succ = h.toNat + h.toNat := by omega
theorem dbl3 {h : Int} (h0 : 1 ≤ h) : h.toNat ≤ (2 * h).toNat - 1 := by omega
theorem dbl4 {h : Int} (h0 : 1 ≤ h) : h.toNat ≤ ((2 * h - 1).toNat - 1).succ := by omega
theorem half1 {h : Int} (h0 : 2 ≤ 2 * h) : 1 ≤ h := by omega
theorem half2 {h : Int} (h0 : 2 ≤ 2 * h - 1) : 1 ≤ h := by omega
theorem half3 {h : Int} (h0 : 2 * h < 7998) : h < 4000 := by omega
theorem half4 {h : Int} (h0 : 2 * h - 1 < 7998) : h < 4000 := by omega
theorem sz8 {h : Int} (h0 : h < 4000) : h.toNat ≤ 8000 := by omega
theorem sz16 {h : Int} (h0 : h < 4000) : h.toNat + h.toNat ≤ 8000 := by omega
theorem sz32 {h : Int} (h0 : h < 4000) : h.toNat + h.toNat + (h.toNat + h.toNat) ≤ 16000 := by omega
local macro_rules
  | `(tactic| walk_at "binaryOp LShift int int") => `(tactic| (refine lshift_int (by omega) (szOf (by assumption) (by omega)) ?_; try dsimp only))
  | `(tactic| walk_at "binaryOp RShift int int") => `(tactic| first | (with_reducible refine rshift2 ?_; try dsimp only) | (refine rshiftE (by omega) ?_; try dsimp only))
  | `(tactic| walk_at "binaryOp BitAnd int int") => `(tactic| first | (with_reducible refine andEven ?_; try dsimp only) | (with_reducible refine andOdd ?_; try dsimp only) | (with_reducible refine andMask ?_; try dsimp only))
  | `(tactic| walk_at "binaryOp BitOr int int") => `(tactic| (with_reducible refine orShift (by assumption) (by assumption) ?_; try dsimp only))
  | `(tactic| walk_at "inplaceOp LShift int int") => `(tactic| (refine ilshift2 (by assumption) (by omega) ?_; try dsimp only))
  | `(tactic| walk_at "inplaceOp RShift int int") => `(tactic| (with_reducible refine irshift2 ?_; try dsimp only))
  | `(tactic| walk_at "inplaceOp Add int int") => `(tactic| (with_reducible refine iaddOdd ?_; try dsimp only))
section
variable {prog : Program} {w : World} {dp un : Nat} {fr : Option (List Env)} {gd : Option (List Code)} {s : Shared} {p : Program} {loose : List Str} {mean : ExcName → Option Value} {mg mb : Str → Option Value} {Q : Value → Shared → Prop} {E : Value → Shared → Prop}
  {h₀ : Heap} {L : Addr} {m : Str → Option Value} {news : List (Addr × Obj)}
theorem c_div2_even {a b h : Int} {ta tb tn : Tok} (X : (Mine.K w.params).In s.heap) (T : Top p loose mean mg mb s.heap) (hroom : dp + 3 < recursionLimit)
   (hn0 : 1 ≤ h) (hn : h < 4000) (ha : 0 ≤ a) (hb' : 2 ^ h.toNat ≤ b) (hb : b < 2 ^ h.toNat * 2 ^ h.toNat) (hA : a < b * (2 ^ h.toNat * 2 ^ h.toNat))
   (ret : ∀ t tq tr h' tk', Keep s.heap h' → s.heap.get? t = none → h'.get? t = some (tupObj [.int (a / b) tq, .int (a % b) tr]) → Q (.ref t) { s with heap := h', toks := tk' }) :
   wpAny (model prog w) (AR dp un fr gd) (call (.ref 21) [.int a ta, .int b tb, .int (2 * h) tn]) Q E s := by
  w_top off
  have hp := p2pos h.toNat
  have hb0 : 0 < b := by omega
  by_cases hs : (intBits a : Int) - 2 * h ≤ 4000
  · refine c_div_small0 X T (by omega) hs hb0 (Int.lt_of_lt_of_le hb ?_) ret
    rw [← Int.pow_add]; exact p2mono (by omega)
  refine enter (binds := [("a", .int a ta), ("b", .int b tb), ("n", .int (2 * h) tn)]) X T (by k_is) (by k_is) (by show dp < _; exact room0 hroom) (BindsTo.of_eq rfl) (locs rfl) ?_ rfl rfl rfl (by decide)
  intro L' h₁ F N
  refine retQ fun Q' E' hQ => ?_
  have hz1 := bits1
  obtain ⟨k1, k2, k3, k4, k5, k6⟩ := div2_math hb0 hp ha hA
  have eP : (2 : Int) ^ (2 * h).toNat = 2 ^ h.toNat * 2 ^ h.toNat := by rw [← Int.pow_add, dbl1 hn0]
  have hx0 : 0 ≤ a / 2 ^ h.toNat := Int.ediv_nonneg ha (Int.le_of_lt hp)
  have hq1 : intBits (a / 2 ^ h.toNat / b) ≤ 8000 := by
    refine bits_le (Int.ediv_nonneg hx0 (Int.le_of_lt hb0)) (Int.lt_of_lt_of_le (Int.ediv_lt_of_lt_mul hb0 (b := 2 ^ h.toNat) (by rw [Int.mul_comm (2 ^ h.toNat)]; exact k1)) (p2mono (by omega)))
  k_steps
  refine c_div3 (by k_asm) (by k_asm) X T (by show dp + 3 < _; exact roomK hroom (by decide)) (by omega) (by omega) ?_ (Int.emod_nonneg _ (by omega)) (Int.emod_lt_of_pos _ hp) ?_ ?_ (Int.emod_nonneg _ (by omega)) (Int.emod_lt_of_pos _ hp) ?_ (by rw [eP]; exact ediv_sq a hp) k1 ?_
  · rw [eP]; exact Int.ediv_nonneg ha (by have := Int.mul_pos hp hp; omega)
  · exact ediv_pos hp hb'
  · exact Int.ediv_lt_of_lt_mul hp hb
  · exact divmod_eq _ _
  intro t tq tr h' tk' F' N' l'
  k_steps
  refine c_div3 (by k_asm) (by k_asm) X T (by show dp + 3 < _; exact roomK hroom (by decide)) (by omega) (by omega) (Int.emod_nonneg _ (by omega)) (Int.emod_nonneg _ (by omega)) (Int.emod_lt_of_pos _ hp) ?_ ?_ (Int.emod_nonneg _ (by omega)) (Int.emod_lt_of_pos _ hp) ?_ rfl k2 ?_
  · exact ediv_pos hp hb'
  · exact Int.ediv_lt_of_lt_mul hp hb
  · exact divmod_eq _ _
  intro t tq tr h' tk' F' N' l'
  k_steps
  rename News _ _ _ _ => N'
  rw [k5, k6] at N'
  rename Fr _ _ _ _ => F'
  exact hQ _ _ (ret _ _ _ _ _ F'.keep (N'.fresh (by k_mem)) (N'.get (by k_mem)))
theorem c_div2_odd {a b h : Int} {ta tb tn : Tok} (X : (Mine.K w.params).In s.heap) (T : Top p loose mean mg mb s.heap) (hroom : dp + 3 < recursionLimit)
   (hn0 : 1 ≤ h) (hn : h < 4000) (ha : 0 ≤ a) (hb' : 2 ^ h.toNat ≤ b * 2) (hb : b * 2 < 2 ^ h.toNat * 2 ^ h.toNat) (hA : a * 2 < b * 2 * (2 ^ h.toNat * 2 ^ h.toNat))
   (ret : ∀ t tq tr h' tk', Keep s.heap h' → s.heap.get? t = none → h'.get? t = some (tupObj [.int (a / b) tq, .int (a % b) tr]) → Q (.ref t) { s with heap := h', toks := tk' }) :
   wpAny (model prog w) (AR dp un fr gd) (call (.ref 21) [.int a ta, .int b tb, .int (2 * h - 1) tn]) Q E s := by
  have hp := p2pos h.toNat
  have hb0 : 0 < b := by omega
  by_cases hs : (intBits a : Int) - (2 * h - 1) ≤ 4000
  · refine c_div_small0 X T (by omega) hs hb0 (Int.lt_of_lt_of_le (by omega : b < 2 ^ h.toNat * 2 ^ h.toNat) ?_) ret
    rw [← Int.pow_add]; exact p2mono (by omega)
  refine enter (binds := [("a", .int a ta), ("b", .int b tb), ("n", .int (2 * h - 1) tn)]) X T (by k_is) (by k_is) (by show dp < _; exact room0 hroom) (BindsTo.of_eq rfl) (locs rfl) ?_ rfl rfl rfl (by decide)
  intro L' h₁ F N
  refine retQ fun Q' E' hQ => ?_
  have hz1 := bits1
  have hza : intBits a ≤ 16000 := by
    refine bits_le ha (Int.lt_of_lt_of_le (b := b * 2 * (2 ^ h.toNat * 2 ^ h.toNat)) (by omega) ?_)
    have h1 : (b * 2) * (2 ^ h.toNat * 2 ^ h.toNat) ≤ (2 ^ h.toNat * 2 ^ h.toNat) * (2 ^ h.toNat * 2 ^ h.toNat) := Int.mul_le_mul_of_nonneg_right (by omega) (by have := Int.mul_pos hp hp; omega)
    refine Int.le_trans h1 ?_
    rw [← Int.pow_add, ← Int.pow_add]
    exact p2mono (sz32 hn)
  have hzb : intBits b ≤ 8000 := by
    refine bits_le (by omega) (Int.lt_of_lt_of_le (b := 2 ^ h.toNat * 2 ^ h.toNat) (by omega) ?_)
    rw [← Int.pow_add]
    exact p2mono (sz16 hn)
  have hb2 : 0 < b * 2 := by omega
  have hdbl := dbl_div (a := a) hb0
  obtain ⟨k1, k2, k3, k4, k5, k6⟩ := div2_math hb2 hp (by omega : 0 ≤ a * 2) hA
  have eP : (2 : Int) ^ (2 * h).toNat = 2 ^ h.toNat * 2 ^ h.toNat := by rw [← Int.pow_add, dbl1 hn0]
  have hx0 : 0 ≤ a * 2 / 2 ^ h.toNat := Int.ediv_nonneg (by omega) (Int.le_of_lt hp)
  have hq1 : intBits (a * 2 / 2 ^ h.toNat / (b * 2)) ≤ 8000 := by
    refine bits_le (Int.ediv_nonneg hx0 (Int.le_of_lt hb2)) (Int.lt_of_lt_of_le (Int.ediv_lt_of_lt_mul hb2 (b := 2 ^ h.toNat) (by rw [Int.mul_comm (2 ^ h.toNat)]; exact k1)) (p2mono (by omega)))
  k_steps
  refine c_div3 (by k_asm) (by k_asm) X T (by show dp + 3 < _; exact roomK hroom (by decide)) (by omega) (by omega) ?_ (Int.emod_nonneg _ (by omega)) (Int.emod_lt_of_pos _ hp) ?_ ?_ (Int.emod_nonneg _ (by omega)) (Int.emod_lt_of_pos _ hp) ?_ (by rw [eP]; exact ediv_sq (a * 2) hp) k1 ?_
  · rw [eP]; exact Int.ediv_nonneg (by omega) (by have := Int.mul_pos hp hp; omega)
  · exact ediv_pos hp hb'
  · exact Int.ediv_lt_of_lt_mul hp hb
  · exact divmod_eq _ _
  intro t tq tr h' tk' F' N' l'
  k_steps
  refine c_div3 (by k_asm) (by k_asm) X T (by show dp + 3 < _; exact roomK hroom (by decide)) (by omega) (by omega) (Int.emod_nonneg _ (by omega)) (Int.emod_nonneg _ (by omega)) (Int.emod_lt_of_pos _ hp) ?_ ?_ (Int.emod_nonneg _ (by omega)) (Int.emod_lt_of_pos _ hp) ?_ rfl k2 ?_
  · exact ediv_pos hp hb'
  · exact Int.ediv_lt_of_lt_mul hp hb
  · exact divmod_eq _ _
  intro t tq tr h' tk' F' N' l'
  k_steps
  rename News _ _ _ _ => N'
  rw [k5, k6, hdbl.1, hdbl.2] at N'
  rename Fr _ _ _ _ => F'
  exact hQ _ _ (ret _ _ _ _ _ F'.keep (N'.fresh (by k_mem)) (N'.get (by k_mem)))
theorem c_div2 {a b n : Int} {ta tb tn : Tok} (F : Fr h₀ L s.heap m) (N : News h₀ L s.heap news) (X : (Mine.K w.params).In h₀) (T : Top p loose mean mg mb h₀) (hroom : dp + 3 < recursionLimit)
   (hn0 : 2 ≤ n) (hn : n < 7998) (ha : 0 ≤ a) (hb' : 2 ^ (n.toNat - 1) ≤ b) (hb : b < 2 ^ n.toNat) (hA : a < b * 2 ^ n.toNat)
   (ret : ∀ t tq tr h' tk', Fr h₀ L h' m → News h₀ L h' ((t, tupObj [.int (a / b) tq, .int (a % b) tr]) :: news) → AllNe t news → Q (.ref t) { s with heap := h', toks := tk' }) :
   wpAny (model prog w) (AR dp un fr gd) (call (.ref 21) [.int a ta, .int b tb, .int n tn]) Q E s := by
  rcases Int.emod_two_eq n with hp | hp
  · obtain ⟨h, rfl⟩ : ∃ h, n = 2 * h := ⟨n / 2, by omega⟩
    have h1 := half1 hn0
    have eP : (2 : Int) ^ (2 * h).toNat = 2 ^ h.toNat * 2 ^ h.toNat := by rw [← Int.pow_add, dbl1 h1]
    rw [eP] at hA hb
    exact c_div2_even (X.keeps F.keep) (T.keeps F.keep) hroom h1 (half3 hn) ha (Int.le_trans (p2mono (dbl3 h1)) hb') hb hA fun _ _ _ _ _ k hn ho => ret _ _ _ _ _ (frKeep F k) (newsAdd F N k hn ho) (newsNe hn N)
  · obtain ⟨h, rfl⟩ : ∃ h, n = 2 * h - 1 := ⟨(n + 1) / 2, by omega⟩
    have h1 := half2 hn0
    have eP : (2 : Int) ^ (2 * h - 1).toNat * 2 = 2 ^ h.toNat * 2 ^ h.toNat := by rw [← Int.pow_add, ← Int.pow_succ, dbl2 h1]
    refine c_div2_odd (X.keeps F.keep) (T.keeps F.keep) hroom h1 (half4 hn) ha ?_ (by omega) ?_ fun _ _ _ _ _ k hn ho => ret _ _ _ _ _ (frKeep F k) (newsAdd F N k hn ho) (newsNe hn N)
    · have : (2 : Int) ^ h.toNat ≤ 2 ^ ((2 * h - 1).toNat - 1) * 2 := by rw [← Int.pow_succ]; exact p2mono (dbl4 h1)
      omega
    · rw [← eP]
      have : b * 2 * (2 ^ (2 * h - 1).toNat * 2) = b * 2 ^ (2 * h - 1).toNat * 4 := by grind
      have h0 := Int.mul_nonneg (a := b) (b := 2 ^ (2 * h - 1).toNat) (by have := p2pos ((2 * h - 1).toNat - 1); omega) (Int.le_of_lt (p2pos _))
      omega
end
end Mine
end
namespace Mine
theorem turn3 {M : PySem.Model} {A : PySem.Around} {E : PySem.Value → PySem.Shared → Prop} {s : PySem.Shared} {env : PySem.Env} {Q : PySem.Flow → PySem.Shared → Prop} (h : Q .next s) : PySem.wpAny M A (PySem.execs [] env) Q E s := by
  w_top off
  walk1
  exact h
end Mine
section
open PySem PySem.W PyProof.Rows
set_option maxRecDepth 100000
set_option maxHeartbeats 8000000
namespace Mine
open Builtin.Int (intBits)
abbrev KeepB (l : Addr) (h h' : Heap) : Prop := ∀ b o, b ≠ l → h.get? b = some o → h'.get? b = some o
theorem fnAtB {g h : Heap} {L f : Addr} {m : Str → Option Value} {fo : Obj} {fd : FuncData} (F : Fr g L h m) (hf : g.get? f = some fo) (hd : fo.data = .func fd) : FnAt f h := by
  obtain ⟨oc, od, dt, sl⟩ := fo
  cases hd
  exact ⟨oc, od, fd, sl, F.keep _ _ hf⟩
theorem hideOne {h : Heap} {l b : Addr} {o : Obj} (e : h.get? b = some o) (hne : b ≠ l) : (hideAll h [l]).get? b = some o := hideAll_get _ e (by rw [List.mem_singleton]; exact hne)
theorem neOf {h : Heap} {l b : Addr} {o o' : Obj} (e : h.get? b = some o) (e' : h.get? l = some o') (hd : o.data ≠ o'.data) : b ≠ l := fun q => by
  rw [q, e'] at e; cases e; exact hd rfl
theorem someUniq {α : Type} {x : Option α} {a b : α} {P : Prop} (h1 : x = some a) (h2 : x = some b) (h : a = b → P) : P := by
  rw [h1] at h2; exact h (Option.some.inj h2)
theorem frKeepB {g h h' : Heap} {L l : Addr} {m : Str → Option Value} (F : Fr g L h m) (k : KeepB l h h') (hl : g.get? l = none) (hL : L ≠ l) : Fr g L h' m := by
  obtain ⟨o, es, ep, ho, r⟩ := F.ns
  exact ⟨⟨o, es, ep, k _ _ hL ho, r⟩, fun b o' e => k _ _ (fun q => by rw [q, hl] at e; cases e) (F.keep b o' e), F.above⟩
theorem codeHide {h : Heap} {l c : Addr} {q : Str} {its : Array Value} {n : Nat} (x : h.CodeRec (.ref c) q) (e' : h.get? l = some (W.listOf its n)) : (hideAll h [l]).CodeRec (.ref c) q := by
  obtain ⟨c₂, oc, vs, t, e2, hoc, hd, hv⟩ := x
  exact ⟨c₂, oc, vs, t, e2, hideOne hoc (neOf hoc e' (by rw [hd]; intro q; cases q)), hd, hv⟩
section
variable {M : Model} {A : Around} {E : Value → Shared → Prop} {s : Shared} {h₀ : Heap} {L a : Addr} {m : Str → Option Value} {cn : Str} {cs : Scope} {ccd : Value} {cl : List (Str × Addr)}
  {x : Str} {pos : Pos} {v : Value} {Q : Value → Shared → Prop} {c : Addr} {o : Obj}
theorem nameX_Fb (F : Fr h₀ L s.heap m) (hc : cl.lookup x = some c) (ho : h₀.get? c = some o) (hd : o.data = .cell (some v)) (h : Q v s)
    (hk : cs.kind = .function := by rfl) (hx : (envX cn cs L a ccd cl).kindOf x = some .free := by rfl) (hb : (x == ("__debug__" : Str)) = false := by decide) (hn : (x == ("__classdict__" : Str)) = false := by decide) :
    wpAny M A (eval (.Name x pos) (envX cn cs L a ccd cl)) Q E s := wpAny_Name (wpAny_loadName_free hk hx hc ⟨o, F.keep _ _ ho, hd⟩ h hn) hb
end
/-- the middle of a stretch -/
theorem mj0 {a b : Int} (h : a < b) : 0 ≤ (a + b) / 2 - a := by omega
theorem mj100 {a b : Int} (h : 0 ≤ a) (hb : b ≤ 100) : (a + b) / 2 - a ≤ 100 := by omega
theorem szz {X n : Int} (h : X ≤ 100 * n) (hn : n < 8000) : ((1000000 : Nat) : Int) + X ≤ 134217728 := by omega
theorem tn8 {n : Int} (h : n < 8000) : n.toNat ≤ 8000 := by omega
theorem k100 {a b : Int} {k : Nat} (hk : b - a = k) (ha : 0 ≤ a) (hb : b ≤ 100) : k ≤ 100 := by omega
theorem leafK {a b : Int} {k : Nat} (hk : b - a = k) (h : a + 1 = b) : k = 1 := by omega
theorem leafN {a b : Int} (ha : 0 ≤ a) (h : a + 1 = b) : b.toNat = a.toNat + 1 := by omega
theorem toLt {a b : Int} {l : Nat} (ha : 0 ≤ a) (h : a < b) (hb : b ≤ l) : a.toNat < l := by omega
theorem toLe {a b : Int} (h : a ≤ b) : a.toNat ≤ b.toNat := by omega
theorem toLe' {b : Int} {l : Nat} (hb : b ≤ l) : b.toNat ≤ l := by omega
theorem midLo {a b : Int} (h : a < b) : a ≤ (a + b) / 2 := by omega
theorem midHi {a b : Int} (h : a < b) : (a + b) / 2 < b := by omega
theorem midGt {a b : Int} (h : a < b) (n : a + 1 ≠ b) : a < (a + b) / 2 := by omega
theorem jLt {a b : Int} {k j : Nat} (hk : b - a = k) (h : a < b) (hj : (a + b) / 2 - a = j) : j < k := by
  have := midHi h
  omega
theorem jPos {a b : Int} {j : Nat} (h : a < (a + b) / 2) (hj : (a + b) / 2 - a = j) : 0 < j := by omega
theorem kjLt {j k : Nat} (h : j < k) (p : 0 < j) : k - j < k := Nat.sub_lt (Nat.lt_trans p h) p
theorem midRest {a b m : Int} {k j : Nat} (hk : b - a = k) (hj : m - a = j) (h : j < k) : b - m = ((k - j : Nat) : Int) := by omega
theorem midN {a m : Int} {j : Nat} (ha : 0 ≤ a) (hj : m - a = j) : a.toNat + j = m.toNat := by omega
theorem roomJ {dp k j n : Nat} (h : dp + k < n) (hj : j < k) : dp + 1 + j < n := by omega
local macro_rules
  | `(tactic| walk_at "eval Name") => `(tactic| (refine nameX_Fb (by assumption) (by assumption) (by assumption) (by assumption) ?_ (by rfl) (by rfl)))
  | `(tactic| walk_at "callWith ref") => `(tactic| (refine callWith_F (fnAtB (by assumption) (by assumption) (by assumption)) ?_))
  | `(tactic| walk_at "FnAt") => `(tactic| exact fnAtB (by assumption) (by assumption) (by assumption))
  | `(tactic| walk_at "binaryOp LShift int int") => `(tactic| (refine lshift_int (by assumption) (szOf (by assumption) (by assumption)) ?_; try dsimp only))
  | `(tactic| walk_at "binaryOp RShift int int") => `(tactic| first | (with_reducible refine rshift1 ?_; try dsimp only) | (refine rshiftE (by assumption) ?_; try dsimp only))
  | `(tactic| walk_at "binaryOp BitXor int int") => `(tactic| (with_reducible refine xorLow ?_; try dsimp only))
section
variable {prog : Program} {w : World} {dp un : Nat} {fr : Option (List Env)} {gd : Option (List Code)} {s : Shared} {p : Program} {loose : List Str} {mean : ExcName → Option Value} {mg mb : Str → Option Value} {Q : Value → Shared → Prop} {E : Value → Shared → Prop}
  {h₀ : Heap}
theorem c_innerI0 {o1 o2 o4 : _} {n0 q0 iname iqual ib : Str} {ps0 iparams : Arguments} {st0 : Stmt} {ibody rest : List Stmt} {e1 : List Expr} {e2 : Option Expr} {e3 : List TypeParam} {iscope sc0 : Scope} {e4 : Option Scope} {ipos : Pos} {v1 v2 v3 v4 v5 v6 doc pm ctv : Value} {a1 : Option Addr}
   (hK : (Mine.K w.params).lookup 35 = some ⟨o1, o2, .func (fnX n0 q0 ps0 (st0 :: .FunctionDef iname iparams ibody e1 e2 e3 iscope e4 ib ipos :: rest) sc0 [] v1 v2 v3 v4 a1 v5 v6), o4⟩)
   {f l ca ci cn c' : Addr} {cl : List (Str × Addr)} {n : Int} {tn : Tok} {fo oa oi on : Obj} {ep : Nat}
   (hcl1 : cl.lookup (Str.ofString "a_digits") = some ca) (hcl2 : cl.lookup (Str.ofString "inner") = some ci) (hcl3 : cl.lookup (Str.ofString "n") = some cn)
   (hfd : fo.data = .func (fnX iname iqual iparams ibody iscope cl .none .none doc pm none (.ref c') ctv))
   (hda : oa.data = .cell (some (.ref l))) (hdi : oi.data = .cell (some (.ref f))) (hdn : on.data = .cell (some (.int n tn)))
   (hn : 0 < n) (hn' : n < 8000) (k : Nat) :
   ∀ (dp un : Nat) (fr : Option (List Env)) (gd : Option (List Code)) (s : Shared) (Q : Value → Shared → Prop) (E : Value → Shared → Prop) (h₀ : Heap) (x a b : Int) (tx ta tb : Tok) (items : List Value) (ns : List Int)
   (_ : (Mine.K w.params).In h₀) (_ : Top p loose mean mg mb h₀) (_ : Keep h₀ s.heap) (_ : h₀.get? l = none) (_ : s.heap.get? l = some (W.listOf items.toArray ep)) (_ : IntsAre items ns)
   (_ : s.heap.get? f = some fo) (_ : s.heap.CodeRec (.ref c') iqual) (_ : s.heap.get? ca = some oa) (_ : s.heap.get? ci = some oi) (_ : s.heap.get? cn = some on)
   (_ : dp + k < recursionLimit) (_ : b - a = k) (_ : 0 ≤ a) (_ : a < b) (_ : b ≤ ns.length) (_ : ns.length ≤ 100) (_ : 0 ≤ x) (_ : x < 2 ^ (n.toNat * k))
   (_ : ∀ vs h' tk', KeepB l s.heap h' → IntsAre vs (seg ns a.toNat b.toNat (digs (2 ^ n.toNat) x k)) → h'.get? l = some (W.listOf vs.toArray ep) → Q .none { s with heap := h', toks := tk' }),
   wpAny (model prog w) (AR dp un fr gd) (call (.ref f) [.int x tx, .int a ta, .int b tb]) Q E s := by
  w_top off
  refine someUniq hK (by k_is) ?_
  intro e
  cases e
  clear hK
  induction k using Nat.strongRecOn with
  | _ k ih =>
  intro dp un fr gd s Q E h₀ x a b tx ta tb items ns X T k0 hl0 hl hI hf hcd hca hci hcn hroom hk ha hab hb hlen hx hx' ret
  refine enterN (binds := [("x", .int x tx), ("L", .int a ta), ("R", .int b tb)]) (hid := [(l, W.listOf items.toArray ep)]) X T k0 (by intro p hp; rw [List.mem_singleton.mp hp]; exact hl) (by intro p hp; rw [List.mem_singleton.mp hp]; exact hl0)
    hf hfd hcd (by show dp < _; exact room0 hroom) (BindsTo.of_eq rfl) (locs rfl) ?_ rfl rfl rfl (by decide)
  intro g L' h₁ hg F N X' T' k1 l1
  k_lt l1
  have gf : g.get? f = some fo := hg ▸ hideOne hf (neOf hf hl (by rw [hfd]; intro q; cases q))
  have ga : g.get? ca = some oa := hg ▸ hideOne hca (neOf hca hl (by rw [hda]; intro q; cases q))
  have gi : g.get? ci = some oi := hg ▸ hideOne hci (neOf hci hl (by rw [hdi]; intro q; cases q))
  have gn : g.get? cn = some on := hg ▸ hideOne hcn (neOf hcn hl (by rw [hdn]; intro q; cases q))
  have gl : g.get? l = none := by rw [hg]; exact hideAll_none _ (.head _)
  have gc : g.CodeRec (.ref c') iqual := hg ▸ codeHide hcd hl
  obtain ⟨j, hj⟩ : ∃ j : Nat, (a + b) / 2 - a = j := ⟨((a + b) / 2 - a).toNat, (Int.toNat_of_nonneg (mj0 hab)).symm⟩
  have hsn : (((a + b) / 2 - a) * n).toNat = n.toNat * j := by
    rw [hj]
    have : (j : Int) * n = ((n.toNat * j : Nat) : Int) := by rw [Int.natCast_mul, Int.toNat_of_nonneg (Int.le_of_lt hn), Int.mul_comm]
    rw [this]; exact Int.toNat_natCast _
  have hsh0 : 0 ≤ ((a + b) / 2 - a) * n := Int.mul_nonneg (mj0 hab) (Int.le_of_lt hn)
  have hb1 : b ≤ 100 := Int.le_trans hb (Int.ofNat_le.mpr hlen)
  have hsz : ((1000000 : Nat) : Int) + ((a + b) / 2 - a) * n ≤ 134217728 := by
    have h1 : ((a + b) / 2 - a) * n ≤ 100 * n := Int.mul_le_mul_of_nonneg_right (mj100 ha hb1) (Int.le_of_lt hn)
    exact szz h1 hn'
  have hB := p2pos n.toNat
  have hpow : (2 : Int) ^ (((a + b) / 2 - a) * n).toNat = (2 ^ n.toNat) ^ j := by rw [hsn, Int.pow_mul]
  have hpp := p2pos (((a + b) / 2 - a) * n).toNat
  have hzu : intBits (x / 2 ^ (((a + b) / 2 - a) * n).toNat) ≤ 1000000 := by
    refine bits_le (Int.ediv_nonneg hx (Int.le_of_lt hpp)) (Int.lt_of_le_of_lt (Int.ediv_le_self _ hx) (Int.lt_of_lt_of_le hx' (p2mono ?_)))
    have h1 : n.toNat * k ≤ 8000 * 100 := Nat.mul_le_mul (tn8 hn') (k100 hk ha hb1)
    exact Nat.le_trans h1 (by decide)
  k_steps
  · rename a + 1 = b => hleaf
    have hk1 : k = 1 := leafK hk hleaf
    subst hk1
    rename IntsAre (List.set _ _ _) _ => hI'
    rename News _ _ _ _ => N'
    rename Fr _ _ _ _ => F'
    refine ret _ _ _ (fun b o hne e => F'.keep _ _ (hg ▸ hideOne e hne)) ?_ (N'.get (.head _))
    rw [digs, digs, Int.emod_eq_of_lt hx (by rw [Nat.mul_one] at hx'; exact hx'), leafN ha hleaf, ← seg_set (toLt ha hab hb)]
    exact hI'
  · rename a + 1 ≠ b => hleaf
    have jl := jLt hk hab hj
    have jp := jPos (midGt hab hleaf) hj
    have ml := Int.le_trans (Int.le_of_lt (midHi hab)) hb
    rename News _ _ _ _ => N'
    rename Fr _ _ _ _ => F'
    have q0 := Int.emod_nonneg x (Int.ne_of_gt hpp)
    have q1 := Int.emod_lt_of_pos x hpp
    have q2 := Int.ediv_nonneg hx (Int.le_of_lt hpp)
    have hkj : x / 2 ^ (((a + b) / 2 - a) * n).toNat < 2 ^ (n.toNat * (k - j)) := by
      refine Int.ediv_lt_of_lt_mul hpp ?_
      rw [hsn, ← Int.pow_add, ← Nat.mul_add, Nat.sub_add_cancel (Nat.le_of_lt jl)]
      exact hx'
    refine ih j jl _ _ _ _ _ _ _ g _ a ((a + b) / 2) _ _ _ items ns X' T' F'.keep gl (N'.get (.head _)) hI (F'.keep _ _ gf) (gc.keeps F'.keep) (F'.keep _ _ ga) (F'.keep _ _ gi) (F'.keep _ _ gn)
      (by show dp + 1 + j < _; exact roomJ hroom jl) hj ha (midGt hab hleaf) ml hlen q0 (by rw [← hsn]; exact q1) ?_
    intro vs h' tk' kb hI2 hl2
    have hL : L' ≠ l := fun q => Nat.lt_irrefl _ (q ▸ l1)
    have F2 := frKeepB F' kb gl hL
    have N2 : News g L' h' [(l, W.listOf vs.toArray ep)] := fun p hp => by rw [List.mem_singleton.mp hp]; exact ⟨hl2, Ne.symm hL, gl⟩
    clear F' N'
    dsimp only
    k_steps
    rename News _ _ _ _ => N3
    rename Fr _ _ _ _ => F3
    have hlen1 : (seg ns a.toNat ((a + b) / 2).toNat (digs (2 ^ n.toNat) (x % 2 ^ (((a + b) / 2 - a) * n).toNat) j)).length = ns.length := seg_length (by rw [digs_length]; exact midN ha hj) (toLe' ml)
    refine ih (k - j) (kjLt jl jp) _ _ _ _ _ _ _ g _ ((a + b) / 2) b _ _ _ vs _ X' T' F3.keep gl (N3.get (.head _)) hI2 (F3.keep _ _ gf) (gc.keeps F3.keep) (F3.keep _ _ ga) (F3.keep _ _ gi) (F3.keep _ _ gn)
      (by show dp + 1 + (k - j) < _; exact roomJ hroom (kjLt jl jp)) (midRest hk hj jl) (Int.le_trans ha (midLo hab)) (midHi hab) (by rw [hlen1]; exact hb) (by rw [hlen1]; exact hlen) q2 hkj ?_
    intro vs3 h3 tk3 kb3 hI3 hl3
    have F4 := frKeepB F3 kb3 gl hL
    clear F3 N3
    dsimp only
    k_steps
    refine ret vs3 _ _ (fun b o hne e => F4.keep _ _ (hg ▸ hideOne e hne)) ?_ hl3
    rw [seg_seg (by rw [digs_length]; exact midN ha hj) (toLe (Int.le_of_lt (midHi hab))) (toLe' hb), hpow] at hI3
    have := digs_add hB (k - j) j x
    rw [Nat.add_sub_cancel' (Nat.le_of_lt jl)] at this
    rw [this]
    exact hI3
end
end Mine
end
namespace Mine
theorem turn4 {M : PySem.Model} {A : PySem.Around} {E : PySem.Value → PySem.Shared → Prop} {s : PySem.Shared} {env : PySem.Env} {Q : PySem.Flow → PySem.Shared → Prop} (h : Q .next s) : PySem.wpAny M A (PySem.execs [] env) Q E s := by
  w_top off
  walk1
  exact h
end Mine
section
open PySem PySem.W PyProof.Rows
set_option maxRecDepth 100000
set_option maxHeartbeats 8000000
namespace Mine
open Builtin.Int (intBits)
local macro_rules
  | `(tactic| walk_at "eval Name") => `(tactic| (refine nameX_Fb (by assumption) (by assumption) (by assumption) (by assumption) ?_ (by rfl) (by rfl)))
  | `(tactic| walk_at "callWith ref") => `(tactic| (refine callWith_F (fnAtB (by assumption) (by assumption) (by assumption)) ?_))
  | `(tactic| walk_at "FnAt") => `(tactic| exact fnAtB (by assumption) (by assumption) (by assumption))
  | `(tactic| walk_at "binaryOp LShift int int") => `(tactic| (refine lshift_int (by assumption) (szOf (by assumption) (by assumption)) ?_; try dsimp only))
  | `(tactic| walk_at "binaryOp RShift int int") => `(tactic| first | (with_reducible refine rshift1 ?_; try dsimp only) | (refine rshiftE (by assumption) ?_; try dsimp only))
section
variable {prog : Program} {w : World} {dp un : Nat} {fr : Option (List Env)} {gd : Option (List Code)} {s : Shared} {p : Program} {loose : List Str} {mean : ExcName → Option Value} {mg mb : Str → Option Value} {Q : Value → Shared → Prop} {E : Value → Shared → Prop}
  {h₀ : Heap}
theorem c_innerD0 {o1 o2 o4 : _} {n0 q0 iname iqual ib : Str} {ps0 iparams : Arguments} {ibody rest : List Stmt} {e1 : List Expr} {e2 : Option Expr} {e3 : List TypeParam} {iscope sc0 : Scope} {e4 : Option Scope} {ipos : Pos} {v1 v2 v3 v4 v5 v6 doc pm ctv : Value} {a1 : Option Addr}
   (hK : (Mine.K w.params).lookup 42 = some ⟨o1, o2, .func (fnX n0 q0 ps0 (.FunctionDef iname iparams ibody e1 e2 e3 iscope e4 ib ipos :: rest) sc0 [] v1 v2 v3 v4 a1 v5 v6), o4⟩)
   {f l cd ci cn c' : Addr} {cl : List (Str × Addr)} {n : Int} {tn : Tok} {fo od oi on : Obj} {items : List Value} {ns : List Int}
   (hcl1 : cl.lookup (Str.ofString "digits") = some cd) (hcl2 : cl.lookup (Str.ofString "inner") = some ci) (hcl3 : cl.lookup (Str.ofString "n") = some cn)
   (hfd : fo.data = .func (fnX iname iqual iparams ibody iscope cl .none .none doc pm none (.ref c') ctv))
   (hdd : od.data = .cell (some (.ref l))) (hdi : oi.data = .cell (some (.ref f))) (hdn : on.data = .cell (some (.int n tn)))
   (hn : 0 < n) (hn' : n < 8000) (hI : IntsAre items ns) (hlen : ns.length ≤ 100) (hd0 : ∀ d ∈ ns, 0 ≤ d) (hd1 : ∀ d ∈ ns, d < 2 ^ n.toNat) (k : Nat) :
   ∀ (dp un : Nat) (fr : Option (List Env)) (gd : Option (List Code)) (s : Shared) (Q : Value → Shared → Prop) (E : Value → Shared → Prop) (h₀ : Heap) (a b : Int) (ta tb : Tok)
   (_ : (Mine.K w.params).In h₀) (_ : Top p loose mean mg mb h₀) (_ : Keep h₀ s.heap) (_ : s.heap.IsList l items.toArray)
   (_ : s.heap.get? f = some fo) (_ : s.heap.CodeRec (.ref c') iqual) (_ : s.heap.get? cd = some od) (_ : s.heap.get? ci = some oi) (_ : s.heap.get? cn = some on)
   (_ : dp + k < recursionLimit) (_ : b - a = k) (_ : 0 ≤ a) (_ : a < b) (_ : b ≤ ns.length)
   (_ : ∀ t h' tk', Keep s.heap h' → Q (.int (dval (2 ^ n.toNat) (part ns a.toNat b.toNat)) t) { s with heap := h', toks := tk' }),
   wpAny (model prog w) (AR dp un fr gd) (call (.ref f) [.int a ta, .int b tb]) Q E s := by
  w_top off
  refine someUniq hK (by k_is) ?_
  intro e
  cases e
  clear hK
  induction k using Nat.strongRecOn with
  | _ k ih =>
  intro dp un fr gd s Q E h₀ a b ta tb X T k0 hl hf hcd hcd' hci hcn hroom hk ha hab hb ret
  refine enterN (binds := [("L", .int a ta), ("R", .int b tb)]) (hid := []) X T k0 (by intro p hp; cases hp) (by intro p hp; cases hp)
    hf hfd hcd (by show dp < _; exact room0 hroom) (BindsTo.of_eq rfl) (locs rfl) ?_ rfl rfl rfl (by decide)
  intro g L' h₁ hg F N X' T' k1 l1
  have hg' : g = s.heap := hg
  clear hg l1
  subst hg'
  obtain ⟨j, hj⟩ : ∃ j : Nat, (a + b) / 2 - a = j := ⟨((a + b) / 2 - a).toNat, (Int.toNat_of_nonneg (mj0 hab)).symm⟩
  have hsn : (((a + b) / 2 - a) * n).toNat = n.toNat * j := by
    rw [hj]
    have : (j : Int) * n = ((n.toNat * j : Nat) : Int) := by rw [Int.natCast_mul, Int.toNat_of_nonneg (Int.le_of_lt hn), Int.mul_comm]
    rw [this]; exact Int.toNat_natCast _
  have hsh0 : 0 ≤ ((a + b) / 2 - a) * n := Int.mul_nonneg (mj0 hab) (Int.le_of_lt hn)
  have hb1 : b ≤ 100 := Int.le_trans hb (Int.ofNat_le.mpr hlen)
  have hsz : ((1000000 : Nat) : Int) + ((a + b) / 2 - a) * n ≤ 134217728 := by
    have h1 : ((a + b) / 2 - a) * n ≤ 100 * n := Int.mul_le_mul_of_nonneg_right (mj100 ha hb1) (Int.le_of_lt hn)
    exact szz h1 hn'
  have hB := p2pos n.toNat
  have hpow : (2 : Int) ^ (((a + b) / 2 - a) * n).toNat = (2 ^ n.toNat) ^ j := by rw [hsn, Int.pow_mul]
  have hzu : intBits (dval (2 ^ n.toNat) (part ns ((a + b) / 2).toNat b.toNat)) ≤ 1000000 := by
    refine bits_le (dval_nonneg hB fun d hd => hd0 d (part_mem hd)) (Int.lt_of_lt_of_le (dval_lt hB fun d hd => hd1 d (part_mem hd)) ?_)
    rw [← Int.pow_mul]
    refine p2mono ?_
    have h1 : n.toNat * (part ns ((a + b) / 2).toNat b.toNat).length ≤ 8000 * 100 := Nat.mul_le_mul (tn8 hn') (by rw [part_length (toLe' hb)]; exact Nat.le_trans (Nat.sub_le _ _) (Nat.le_trans (toLe' hb) hlen))
    exact Nat.le_trans h1 (by decide)
  k_steps
  · rename a + 1 = b => hleaf
    rw [leafN ha hleaf, part_one (toLt ha hab hb), dval, dval, Int.mul_zero, Int.add_zero] at ret
    exact ret _ _ _ F.keep
  · rename a + 1 ≠ b => hleaf
    have jl := jLt hk hab hj
    have jp := jPos (midGt hab hleaf) hj
    have ml := Int.le_trans (Int.le_of_lt (midHi hab)) hb
    rename News _ _ _ _ => N'
    rename Fr _ _ _ _ => F'
    refine ih (k - j) (kjLt jl jp) _ _ _ _ _ _ _ s.heap ((a + b) / 2) b _ _ X' T' F'.keep (hl.at fun o e => F'.keep _ _ e) (F'.keep _ _ hf) (hcd.keeps F'.keep) (F'.keep _ _ hcd') (F'.keep _ _ hci) (F'.keep _ _ hcn)
      (by show dp + 1 + (k - j) < _; exact roomJ hroom (kjLt jl jp)) (midRest hk hj jl) (Int.le_trans ha (midLo hab)) (midHi hab) hb ?_
    intro t h' tk' kb
    have F2 := frKeep F' kb
    have N2 := newsKeep N' kb
    clear F' N'
    dsimp only
    k_steps
    rename News _ _ _ _ => N3
    rename Fr _ _ _ _ => F3
    refine ih j jl _ _ _ _ _ _ _ s.heap a ((a + b) / 2) _ _ X' T' F3.keep (hl.at fun o e => F3.keep _ _ e) (F3.keep _ _ hf) (hcd.keeps F3.keep) (F3.keep _ _ hcd') (F3.keep _ _ hci) (F3.keep _ _ hcn)
      (by show dp + 1 + j < _; exact roomJ hroom jl) hj ha (midGt hab hleaf) ml ?_
    intro t3 h3 tk3 kb3
    have F4 := frKeep F3 kb3
    have N4 := newsKeep N3 kb3
    clear F3 N3
    dsimp only
    k_steps
    rename Fr _ _ _ _ => F5
    have e : dval (2 ^ n.toNat) (part ns a.toNat b.toNat) = dval (2 ^ n.toNat) (part ns ((a + b) / 2).toNat b.toNat) * 2 ^ (((a + b) / 2 - a) * n).toNat + dval (2 ^ n.toNat) (part ns a.toNat ((a + b) / 2).toNat) := by
      rw [part_split (m := ((a + b) / 2).toNat) (toLe (midLo hab)) (toLe (Int.le_of_lt (midHi hab))), dval_append, part_length (toLe' ml), hpow, show ((a + b) / 2).toNat - a.toNat = j from Nat.sub_eq_of_eq_add' (midN ha hj).symm, Int.mul_comm, Int.add_comm]
    rw [e] at ret
    exact ret _ _ _ F5.keep
end
end Mine
end
section
open PySem PySem.W PyProof.Rows
set_option maxRecDepth 100000
namespace Mine
theorem lookNe {m : Str → Option Value} {x a : Str} {u : Option Value} {v : Value} (h : x ≠ a) (e : m x = some v) : (if x = a then u else m x) = some v := by rw [if_neg h]; exact e
theorem nameM {M : Model} {A : Around} {E : Value → Shared → Prop} {s : Shared} {h₀ : Heap} {L a : Addr} {m : Str → Option Value} {cn : Str} {cs : Scope} {ccd : Value} {cl : List (Str × Addr)}
    {x : Str} {pos : Pos} {v : Value} {Q : Value → Shared → Prop} (F : Fr h₀ L s.heap m) (hk : cs.kind = .function) (hx : (envX cn cs L a ccd cl).kindOf x = some .local) (hv : m x = some v) (h : Q v s) (hd : (x == ("__debug__" : Str)) = false := by decide) :
    wpAny M A (eval (.Name x pos) (envX cn cs L a ccd cl)) Q E s := nameX_L F hv h hk hx hd
theorem loadM {M : Model} {A : Around} {E : Value → Shared → Prop} {s : Shared} {h₀ : Heap} {L a : Addr} {m : Str → Option Value} {cn : Str} {cs : Scope} {ccd : Value} {cl : List (Str × Addr)}
    {x : Str} {v : Value} {Q : Value → Shared → Prop} (F : Fr h₀ L s.heap m) (hk : cs.kind = .function) (hx : (envX cn cs L a ccd cl).kindOf x = some .local) (hv : m x = some v) (h : Q v s) :
    wpAny M A (loadName (envX cn cs L a ccd cl) x) Q E s := wpAny_loadName_local hk hx F.ns hv h
section
variable {prog : Program} {w : World} {A : Around} {E : Value → Shared → Prop} {s : Shared} {env : Env} {h₀ : Heap} {Q : Flow → Shared → Prop}
/-- between the turns of a for -/
inductive ForI (s : Shared) (h₀ : Heap) (L : Addr) (n : Nat) (St : Nat → Heap → Prop) (J : Nat → (Str → Option Value) → Heap → Prop) (k : Nat) (s' : Shared) : Prop
  | mk (h : Heap) (tk : Tok) (m : Str → Option Value) (i : Nat) (e : s' = { s with heap := h, toks := tk }) (st : St i h) (F : Fr h₀ L h m) (j : J i m h) (hi : i ≤ n) (kk : k = n + 1 - i)
/-- a for over anything that walks, by what holds of the frame's names and of the heap -/
theorem forW {x : Str} {px : Pos} {body : List Stmt} {I : Addr} {fp : List Addr} {n : Nat} {P : Nat → Value → Prop} {St : Nat → Heap → Prop} {m : Str → Option Value}
    (W : Walks prog w A I fp [I] n P St) (hx : env.kindOf x = some .local)
    (hp : (env.scope.kind == .class || (env.scope.kind == .module && env.locals != env.globals)) = false)
    (hLf : env.locals ∉ fp) (hI0 : h₀.get? I = none)
    (J : Nat → (Str → Option Value) → Heap → Prop) (hJ : ∀ i m h h', J i m h → (∀ b o, b ≠ I → b ≠ env.locals → h.get? b = some o → h'.get? b = some o) → J i m h')
    (hst : St 0 s.heap) (F : Fr h₀ env.locals s.heap m) (h0 : J 0 m s.heap)
    (turn : ∀ i v m₁ h tk oI, i < n → P i v → J i m₁ h → Fr h₀ env.locals h (fun y => if y = x then some v else m₁ y) → h.get? I = some oI →
      wpAny (model prog w) A (execs body env) (fun f s₃ => match f with
          | .next | .cont => Hold (∃ h' tk' m', s₃ = { s with heap := h', toks := tk' } ∧ Fr h₀ env.locals h' m' ∧ (∀ b ∈ fp, ∀ o, h.get? b = some o → h'.get? b = some o) ∧ J (i + 1) m' h')
          | .brk => Q .next s₃
          | .ret v => Q (.ret v) s₃) (notedBy (model prog w) A env fun e s' => cameBackBy (model prog w) A env E e s') { s with heap := h, toks := tk })
    (hIo : ∀ i h, St i h → ∃ o, h.get? I = some o)
    (done : ∀ m' h tk, J n m' h → Fr h₀ env.locals h m' → Q .next { s with heap := h, toks := tk }) :
    codeAny (model prog w) A (.forLoop (.Name x px) (.ref I) body [] env) (fun r s' => match r with | .ok f => Q f s' | .error e => cameBackBy (model prog w) A env E e s') s := by
  have hLI : env.locals ≠ I := fun q => hLf (q ▸ W.sub I (.head _))
  refine forH (ForI s h₀ env.locals n St J) (n + 1) ⟨s.heap, s.toks, m, 0, rfl, hst, F, h0, Nat.zero_le _, rfl⟩ ?_ (fun _ => rfl)
  rintro k s' ⟨h, tk, m₁, i, rfl, st, F₁, hj, hi, rfl⟩
  have mv : ∀ h₁ : Heap, (∀ b o, b ∉ [I] → h.get? b = some o → h₁.get? b = some o) → Fr h₀ env.locals h₁ m₁ ∧ J i m₁ h₁ := fun h₁ hk₁ => by
    have hk₂ : ∀ b o, b ≠ I → h.get? b = some o → h₁.get? b = some o := fun b o q => hk₁ b o (by rw [List.mem_singleton]; exact q)
    obtain ⟨oL, es, ep, hoL, r⟩ := F₁.ns
    exact ⟨⟨⟨oL, es, ep, hk₂ _ _ hLI hoL, r⟩, fun b o e => hk₂ b o (fun q => by rw [q, hI0] at e; cases e) (F₁.keep b o e), F₁.above⟩, hJ i m₁ h h₁ hj fun b o q _ => hk₂ b o q⟩
  by_cases hlt : i < n
  · refine W.item i _ _ _ hlt st fun v h₁ tk₁ hP st₁ hk₁ => ?_
    obtain ⟨F₂, hj₂⟩ := mv h₁ hk₁
    refine wpAny_assign_Name (wpAny_storeName_local hx F₂.ns (fun h₂ hn₂ hs₂ => ?_) hp)
    have F₃ := F₂.set hn₂ hs₂
    have st₂ : St (i + 1) h₂ := W.frame _ _ _ st₁ fun b hb o e => (hs₂.2 b fun q => hLf (q ▸ hb)).trans e
    obtain ⟨oI, hoI⟩ := hIo _ _ st₂
    refine wpAny_mono (turn i v m₁ h₂ _ oI hlt hP (hJ i m₁ h₁ h₂ hj₂ fun b o _ q e => (hs₂.2 b q).trans e) F₃ hoI) (fun f s₃ h₃ => ?_) fun _ _ e => e
    cases f with
    | next =>
      obtain ⟨h', tk', m', rfl, F', kfp, hj'⟩ := h₃
      exact ⟨n + 1 - (i + 1), by omega, h', tk', m', i + 1, rfl, W.frame _ _ _ st₂ kfp, F', hj', hlt, rfl⟩
    | cont =>
      obtain ⟨h', tk', m', rfl, F', kfp, hj'⟩ := h₃
      exact ⟨n + 1 - (i + 1), by omega, h', tk', m', i + 1, rfl, W.frame _ _ _ st₂ kfp, F', hj', hlt, rfl⟩
    | brk => exact h₃
    | ret v => exact h₃
  · have hin : i = n := by omega
    subst hin
    refine W.done _ _ _ st fun h₁ tk₁ hk₁ => wpAny_execs_nil ?_
    obtain ⟨F₂, hj₂⟩ := mv h₁ hk₁
    exact done m₁ h₁ tk₁ hj₂ F₂
end
end Mine
end
local macro_rules | `(tactic| kpt_turns) => `(tactic| (refine Mine.nameM (by k_asm) (by rfl) (by rfl) (by first | rfl | assumption | ((repeat refine Mine.lookNe (by decide) ?_); assumption)) ?_))
section
open PySem PySem.W PySem.Calls PyProof.Rows
set_option maxRecDepth 100000
namespace Mine
/-- new objects that bear what a comprehension's elements are -/
def Sup (sup : List (Addr × Obj)) (h₂ h : Heap) : Prop := ∀ p ∈ sup, h.get? p.1 = some p.2 ∧ h₂.get? p.1 = none
theorem Paired.mono {α β : Type} {F G : α → β → Prop} (h : ∀ a b, F a b → G a b) : ∀ {l₁ : List α} {l₂ : List β}, Paired F l₁ l₂ → Paired G l₁ l₂
  | _, _, .nil => .nil
  | _, _, .cons h₁ t => .cons (h _ _ h₁) (Paired.mono h t)
theorem range_filter_succ (pz : Nat → Bool) (i : Nat) : (List.range (i + 1)).filter pz = (List.range i).filter pz ++ if pz i = true then [i] else [] := by
  rw [List.range_succ, List.filter_append]
  cases h : pz i <;> simp [h]
/-- between the turns of a comprehension's loop -/
inductive CInv (s : Shared) (cenv : Env) (g : Heap) (I D : Addr) (pz : Nat → Bool) (R' : Nat → Value → List (Addr × Obj) → Prop) (n : Nat) (St : Nat → Heap → Prop) (k : Nat) (s' : Shared) : Prop
  | mk (h : Heap) (tk : Tok) (m : Str → Option Value) (i : Nat) (ys : List Value) (ep : Nat) (sup : List (Addr × Obj)) (e : s' = { s with heap := h, toks := tk }) (st : St i h) (F : Fr g cenv.locals h m) (hD : h.get? D = some (PySem.W.listOf ys.toArray ep)) (hS : Sup sup g h) (hS' : ∀ p ∈ sup, p.1 ≠ D ∧ p.1 ≠ I ∧ p.1 ≠ cenv.locals) (hF : Paired (fun i y => R' i y sup) ((List.range i).filter pz) ys) (hi : i ≤ n) (kk : k = n + 1 - i)
section
variable (prog : Program) (w : World) (A : Around) (env : Env) (scope : Scope) (cl : List (Str × Addr)) (x : Str) (ifs : List Expr) (elt : Expr) (pz : Nat → Bool) (R' : Nat → Value → List (Addr × Obj) → Prop)
/-- what is asked of the conditions of a comprehension -/
def TestsW (s₂ : Shared) (I : Addr) (n : Nat) (P : Nat → Value → Prop) : Prop := ∀ C D i v (m₁ : Str → Option Value) h tk oI oD E', i < n → P i v → Fr (hideAll s₂.heap [I]) C h (fun y => if y = x then some v else m₁ y) → News (hideAll s₂.heap [I]) C h [(D, oD), (I, oI)] →
        wpAny (model prog w) A (forIn ifs true fun c r => if r = true then do let ok ← isTrue c (compEnvC scope cl C env) (eval c (compEnvC scope cl C env)); pure (ForInStep.yield ok) else pure (ForInStep.yield r))
          (fun ok s₃ => Hold (∃ h' tk', s₃ = { s₂ with heap := h', toks := tk' } ∧ Keep h h' ∧ ok = pz i)) E' { s₂ with heap := h, toks := tk }
/-- what is asked of its elements -/
def EltsW (s₂ : Shared) (I : Addr) (n : Nat) (P : Nat → Value → Prop) : Prop := ∀ C D i v (m₁ : Str → Option Value) h tk oI oD E', i < n → P i v → pz i = true → Fr (hideAll s₂.heap [I]) C h (fun y => if y = x then some v else m₁ y) → News (hideAll s₂.heap [I]) C h [(D, oD), (I, oI)] →
        wpAny (model prog w) A (eval elt (compEnvC scope cl C env)) (fun y s₃ => Hold (∃ h' tk' sup, s₃ = { s₂ with heap := h', toks := tk' } ∧ Keep h h' ∧ Sup sup h h' ∧ R' i y sup)) E' { s₂ with heap := h, toks := tk }
/-- what stands behind the making of a comprehension's iterator -/
inductive CAt (Q : Value → Shared → Prop) (it : Value) (s₂ : Shared) : Prop
  | mk (I : Addr) (fp : List Addr) (n : Nat) (P : Nat → Value → Prop) (St : Nat → Heap → Prop) (e : it = .ref I) (W : Walks prog w A I fp [I] n P St) (sz : n ≤ sizeLine) (st : St 0 s₂.heap) (hfp : ∀ b ∈ fp, b < s₂.heap.objs.size) (hIo : ∀ i h, St i h → ∃ o, h.get? I = some o) (ht : TestsW prog w A env scope cl x ifs pz s₂ I n P) (he : EltsW prog w A env scope cl x elt pz R' s₂ I n P)
    (hQ : ∀ D h' tk ys ep sup, s₂.heap.get? D = none → h'.get? D = some (PySem.W.listOf (ys : List Value).toArray ep) → Sup sup s₂.heap h' → (∀ p ∈ sup, p.1 ≠ D) → Paired (fun i y => R' i y sup) ((List.range n).filter pz) ys →
        (∀ b o, b ≠ I → s₂.heap.get? b = some o → h'.get? b = some o) → Q (.ref D) { s₂ with heap := h', toks := tk })
inductive CAtA (y : Str) (Q : Flow → Shared → Prop) (it : Value) (s₂ : Shared) : Prop
  | mk (I : Addr) (fp : List Addr) (n : Nat) (P : Nat → Value → Prop) (St : Nat → Heap → Prop) (m : Str → Option Value) (e : it = .ref I) (W : Walks prog w A I fp [I] n P St) (sz : n ≤ sizeLine) (st : St 0 s₂.heap) (hfp : ∀ b ∈ fp, b < s₂.heap.objs.size) (hIo : ∀ i h, St i h → ∃ o, h.get? I = some o) (hLI : env.locals ≠ I) (hn : s₂.heap.Ns env.locals m) (ht : TestsW prog w A env scope cl x ifs pz s₂ I n P) (he : EltsW prog w A env scope cl x elt pz R' s₂ I n P)
    (hQ : ∀ D h' tk ys ep sup, s₂.heap.get? D = none → h'.get? D = some (PySem.W.listOf (ys : List Value).toArray ep) → Sup sup s₂.heap h' → (∀ p ∈ sup, p.1 ≠ D) → Paired (fun i y => R' i y sup) ((List.range n).filter pz) ys →
        h'.Ns env.locals (fun z => if z = y then some (.ref D) else m z) → (∀ b o, b ≠ env.locals → b ≠ I → s₂.heap.get? b = some o → h'.get? b = some o) → Q .next { s₂ with heap := h', toks := tk })
end
section
variable {prog : Program} {w : World} {A : Around} {R : Result → Shared → Prop} {s : Shared}
theorem compLoopW {elt iter : Expr} {x : Str} {px : Pos} {ifs : List Expr} {scope : Scope} {pos : Pos} {I D : Addr} {fp : List Addr} {n : Nat} {P : Nat → Value → Prop} {St : Nat → Heap → Prop}
    {cenv : Env} {g : Heap} {m : Str → Option Value} (W : Walks prog w A I fp [I] n P St) (hsz : n ≤ sizeLine) (pz : Nat → Bool) (R' : Nat → Value → List (Addr × Obj) → Prop)
    (hmono : ∀ i y sup sup', R' i y sup → (∀ p ∈ sup, p ∈ sup') → R' i y sup')
    (hx : cenv.kindOf x = some .local) (hp : (cenv.scope.kind == .class || (cenv.scope.kind == .module && cenv.locals != cenv.globals)) = false)
    (hDC : D ≠ cenv.locals) (hDf : D ∉ fp) (hCf : cenv.locals ∉ fp) (hgI : g.get? I = none) (hgD : g.get? D = none) (hIo : ∀ i h, St i h → ∃ o, h.get? I = some o)
    (hst : St 0 s.heap) (hacc : s.heap.get? D = some (PySem.W.listOf #[] 0)) (F : Fr g cenv.locals s.heap m)
    (htests : ∀ i v (m₁ : Str → Option Value) h tk oI oD E', i < n → P i v → Fr g cenv.locals h (fun y => if y = x then some v else m₁ y) → News g cenv.locals h [(D, oD), (I, oI)] →
      wpAny (model prog w) A (forIn ifs true fun c r => if r = true then do let ok ← isTrue c cenv (eval c cenv); pure (ForInStep.yield ok) else pure (ForInStep.yield r))
        (fun ok s₃ => Hold (∃ h' tk', s₃ = { s with heap := h', toks := tk' } ∧ Keep h h' ∧ ok = pz i)) E' { s with heap := h, toks := tk })
    (helt : ∀ i v (m₁ : Str → Option Value) h tk oI oD E', i < n → P i v → pz i = true → Fr g cenv.locals h (fun y => if y = x then some v else m₁ y) → News g cenv.locals h [(D, oD), (I, oI)] →
      wpAny (model prog w) A (eval elt cenv) (fun y s₃ => Hold (∃ h' tk' sup, s₃ = { s with heap := h', toks := tk' } ∧ Keep h h' ∧ Sup sup h h' ∧ R' i y sup)) E' { s with heap := h, toks := tk })
    (hR : ∀ h' tk m' ys ep sup, Fr g cenv.locals h' m' → h'.get? D = some (PySem.W.listOf (ys : List Value).toArray ep) → Sup sup g h' → (∀ p ∈ sup, p.1 ≠ D ∧ p.1 ≠ I ∧ p.1 ≠ cenv.locals) → Paired (fun i y => R' i y sup) ((List.range n).filter pz) ys → R (.ok .next) { s with heap := h', toks := tk }) :
    codeAny (model prog w) A (.compLoop (.ListComp elt [⟨.Name x px, iter, ifs, 0⟩] scope pos) 0 (.ref I) (.ref D) cenv) R s := by
  have hCI : cenv.locals ≠ I := fun q => hCf (q ▸ W.sub I (.head _))
  have hDI : D ≠ I := fun q => hDf (q ▸ W.sub I (.head _))
  refine codeAny_compLoop_tests
    (CInv s cenv g I D pz R' n St) ?_ (n + 1)
    ⟨s.heap, s.toks, m, 0, [], 0, [], rfl, hst, F, hacc, (fun _ h => nomatch h), (fun _ h => nomatch h), .nil, Nat.zero_le _, rfl⟩ (fun _ => rfl)
  rintro k s' ⟨h, tk, m₁, i, ys, ep, sup, rfl, st, F₁, hD, hS, hS', hF, hi, rfl⟩
  have mv : ∀ h₁ : Heap, (∀ b o, b ∉ [I] → h.get? b = some o → h₁.get? b = some o) → Fr g cenv.locals h₁ m₁ ∧ h₁.get? D = some (PySem.W.listOf ys.toArray ep) ∧ Sup sup g h₁ := fun h₁ hk₁ => by
    have hk₂ : ∀ b o, b ≠ I → h.get? b = some o → h₁.get? b = some o := fun b o q => hk₁ b o (by rw [List.mem_singleton]; exact q)
    obtain ⟨oL, es, ep, hoL, r⟩ := F₁.ns
    exact ⟨⟨⟨oL, es, ep, hk₂ _ _ hCI hoL, r⟩, fun b o e => hk₂ b o (fun q => by rw [q, hgI] at e; cases e) (F₁.keep b o e), F₁.above⟩, hk₂ _ _ hDI hD, fun p hp => ⟨hk₂ _ _ (hS' p hp).2.1 (hS p hp).1, (hS p hp).2⟩⟩
  by_cases hlt : i < n
  · refine W.item i _ _ _ hlt st fun v h₁ tk₁ hP st₁ hk₁ => ?_
    obtain ⟨F₂, hD₂, hS₂⟩ := mv h₁ hk₁
    refine wpAny_assign_Name (wpAny_storeName_local hx F₂.ns (fun h₂ hn₂ hs₂ => ?_) hp)
    have F₃ := F₂.set hn₂ hs₂
    have st₂ : St (i + 1) h₂ := W.frame _ _ _ st₁ fun b hb o e => (hs₂.2 b fun q => hCf (q ▸ hb)).trans e
    have hD₃ : h₂.get? D = some (PySem.W.listOf ys.toArray ep) := (hs₂.2 D hDC).trans hD₂
    have hS₃ : Sup sup g h₂ := fun p hp => ⟨(hs₂.2 _ (hS' p hp).2.2).trans (hS₂ p hp).1, (hS₂ p hp).2⟩
    obtain ⟨oI, hoI⟩ := hIo _ _ st₂
    have N₃ : ∀ h₃ : Heap, Keep h₂ h₃ → News g cenv.locals h₃ [(D, PySem.W.listOf ys.toArray ep), (I, oI)] := fun h₃ k p hp => by
      rcases List.mem_cons.mp hp with rfl | hp
      · exact ⟨k _ _ hD₃, hDC, hgD⟩
      · rw [List.mem_singleton.mp hp]; exact ⟨k _ _ hoI, Ne.symm hCI, hgI⟩
    refine wpAny_mono (htests i v m₁ h₂ _ oI _ _ hlt hP F₃ (N₃ _ Keep.rfl)) (fun ok s₃ h₃ => ?_) fun _ _ e => e
    obtain ⟨h₃, tk₃, rfl, k₃, rfl⟩ := h₃
    have st₃ : St (i + 1) h₃ := W.frame _ _ _ st₂ fun b _ o e => k₃ b o e
    cases hz : pz i with
    | false =>
      simp only [Bool.false_eq_true, if_false]
      refine ⟨n + 1 - (i + 1), by omega, h₃, tk₃, _, i + 1, ys, ep, sup, rfl, st₃, frKeep F₃ k₃, k₃ _ _ hD₃, fun p hp => ⟨k₃ _ _ (hS₃ p hp).1, (hS₃ p hp).2⟩, hS', ?_, hlt, rfl⟩
      rw [range_filter_succ, hz]
      simpa using hF
    | true =>
      simp only [if_true]
      refine wpAny_mono (helt i v m₁ h₃ tk₃ oI _ _ hlt hP hz (frKeep F₃ k₃) (N₃ _ k₃)) (fun y s₄ h₄ => ?_) fun _ _ e => e
      obtain ⟨h₄, tk₄, sup₄, rfl, k₄, hS₄, hR₄⟩ := h₄
      have k₂₄ : Keep h₂ h₄ := Keep.trans k₃ k₄
      have hyl : ys.length ≤ n := by
        have h1 := hF.length
        have h2 := List.length_filter_le pz (List.range i)
        rw [List.length_range] at h2
        omega
      refine append_at (hsz := by show ys.toArray.size ≤ sizeLine; rw [List.size_toArray]; omega) (k₂₄ _ _ hD₃) fun h₅ hs₅ hD₅ => ?_
      have up : ∀ b o, b ≠ D → h₄.get? b = some o → h₅.get? b = some o := fun b o q e => (hs₅.2 b q).trans e
      have F₄ := frKeep F₃ k₂₄
      have F₅ : Fr g cenv.locals h₅ (fun y => if y = x then some v else m₁ y) := by
        obtain ⟨oL, es, ep, hoL, r⟩ := F₄.ns
        exact ⟨⟨oL, es, ep, up _ _ (Ne.symm hDC) hoL, r⟩, fun b o e => up b o (fun q => by rw [q, hgD] at e; cases e) (F₄.keep b o e), F₄.above⟩
      have ne₄ : ∀ p ∈ sup₄, p.1 ≠ D ∧ p.1 ≠ I ∧ p.1 ≠ cenv.locals := fun p hp => by
        have hn := (hS₄ p hp).2
        refine ⟨fun q => ?_, fun q => ?_, fun q => ?_⟩
        · rw [q, k₃ _ _ hD₃] at hn; cases hn
        · rw [q, k₃ _ _ hoI] at hn; cases hn
        · obtain ⟨oL, _, _, hoL, _⟩ := (frKeep F₃ k₃).ns
          rw [q, hoL] at hn; cases hn
      refine ⟨n + 1 - (i + 1), by omega, h₅, tk₄, _, i + 1, ys ++ [y], ep + 1, sup ++ sup₄, rfl, W.frame _ _ _ st₃ fun b hb o e => up b o (fun q => hDf (q ▸ hb)) (k₄ b o e), F₅, ?_, ?_, ?_, ?_, hlt, rfl⟩
      · rw [hD₅]; simp
      · intro p hp
        rcases List.mem_append.mp hp with hp | hp
        · exact ⟨up _ _ (hS' p hp).1 (k₂₄ _ _ (hS₃ p hp).1), (hS₃ p hp).2⟩
        · refine ⟨up _ _ (ne₄ p hp).1 (hS₄ p hp).1, ?_⟩
          cases q : g.get? p.1 with
          | none => rfl
          | some o => have := (hS₄ p hp).2; rw [(frKeep F₃ k₃).keep _ _ q] at this; cases this
      · intro p hp
        rcases List.mem_append.mp hp with hp | hp
        · exact hS' p hp
        · exact ne₄ p hp
      · rw [range_filter_succ, hz]
        simp only [if_true]
        exact Paired.snoc (Paired.mono (fun i y r => hmono i y _ _ r fun p hp => List.mem_append_left _ hp) hF) (hmono i y _ _ hR₄ fun p hp => List.mem_append_right _ hp)
  · have hin : i = n := by omega
    subst hin
    refine W.done _ _ _ st fun h₁ tk₁ hk₁ => ?_
    obtain ⟨F₂, hD₂, hS₂⟩ := mv h₁ hk₁
    exact hR h₁ tk₁ m₁ ys ep sup F₂ hD₂ hS₂ hS' hF
end
section
variable {prog : Program} {w : World} {A : Around} {E : Value → Shared → Prop} {env : Env}
/-- what a comprehension over a walked iterator leaves: the accumulator, then the variables let go -/
theorem compBlockW {elt iter : Expr} {x : Str} {px : Pos} {ifs : List Expr} {scope : Scope} {cl : List (Str × Addr)} {pos : Pos} {s₂ : Shared} {I : Addr} {fp : List Addr} {n : Nat} {P : Nat → Value → Prop}
    {St : Nat → Heap → Prop} (W : Walks prog w A I fp [I] n P St) (hsz : n ≤ sizeLine) (pz : Nat → Bool) (R' : Nat → Value → List (Addr × Obj) → Prop)
    (hmono : ∀ i y sup sup', R' i y sup → (∀ p ∈ sup, p ∈ sup') → R' i y sup') {RR : Value → Addr → Result → Shared → Prop}
    (hcell : ∀ y ∈ scope.names, y.2 ≠ .cell) (hkind : scope.kind = .function) (hx : scope.names.lookup x = some .local) (hst : St 0 s₂.heap) (hfp : ∀ b ∈ fp, b < s₂.heap.objs.size) (hIo : ∀ i h, St i h → ∃ o, h.get? I = some o)
    (htests : TestsW prog w A env scope cl x ifs pz s₂ I n P) (helt : EltsW prog w A env scope cl x elt pz R' s₂ I n P)
    (hRR : ∀ D C h' tk m' ys ep sup, s₂.heap.get? D = none → s₂.heap.get? C = none → D ≠ C → h'.Ns C m' → h'.get? D = some (PySem.W.listOf (ys : List Value).toArray ep) → Sup sup s₂.heap h' → (∀ p ∈ sup, p.1 ≠ D ∧ p.1 ≠ C) → Paired (fun i y => R' i y sup) ((List.range n).filter pz) ys →
      (∀ b o, b ≠ I → s₂.heap.get? b = some o → h'.get? b = some o) → RR (.ref D) C (.ok .next) { s₂ with heap := h', toks := tk }) :
    wpAny (model prog w) A (newList []) (fun acc s₃ => wpAny (model prog w) A (newFunctionEnv scope env.globals cl [] env.qual none .none (some env)) (fun cenv s₄ =>
      codeAny (model prog w) A (.compStart (.ListComp elt [⟨.Name x px, iter, ifs, 0⟩] scope pos) 0 (.ref I) acc { cenv with scope := relabel scope env }) (RR acc cenv.locals) s₄) E s₃) E s₂ := by
  refine wpAny_newObj_type (wpAny_newFunctionEnv hcell (by intro y hy; simp at hy) (fun h₁ hns₁ hsb₁ => ?_) hkind)
  dsimp only at hns₁ hsb₁ ⊢
  generalize hH2 : s₂.heap.push { cls := .type "list", dict := none, data := .seq ([] : List Value).toArray } = H2 at hns₁ hsb₁ ⊢
  have hC : H2.objs.size = s₂.heap.objs.size + 1 := by rw [← hH2, Heap.size_push]
  have hDC : s₂.heap.objs.size ≠ H2.objs.size := by rw [hC]; exact Nat.ne_of_lt (Nat.lt_succ_self _)
  have hlow : ∀ b, b < s₂.heap.objs.size → b ≠ H2.objs.size := fun b hb => by rw [hC]; exact Nat.ne_of_lt (Nat.lt_succ_of_lt hb)
  have old : ∀ b o, s₂.heap.get? b = some o → h₁.get? b = some o := fun b o e => hsb₁.extBut b o (hlow b (Heap.lt_size e)) (Heap.get?_push_of_some _ (hH2 ▸ Heap.get?_push_of_some _ e))
  have hacc : h₁.get? s₂.heap.objs.size = some (PySem.W.listOf #[] 0) := hsb₁.extBut _ _ hDC (Heap.get?_push_of_some _ (hH2 ▸ Heap.get?_push_size _ rfl))
  have hDf : s₂.heap.objs.size ∉ fp := fun hm => Nat.lt_irrefl _ (hfp _ hm)
  have hCf : H2.objs.size ∉ fp := fun hm => by have := hfp _ hm; rw [hC] at this; exact Nat.lt_irrefl _ (Nat.lt_of_succ_lt this)
  have hst₁ : St 0 h₁ := W.frame _ _ _ hst fun b _ o e => old b o e
  have fresh : ∀ a, s₂.heap.objs.size ≤ a → s₂.heap.get? a = none := fun a ha => by
    cases e : s₂.heap.get? a with
    | none => rfl
    | some o' => exact absurd (Heap.lt_size e) (Nat.not_lt.mpr ha)
  have gn : ∀ a, s₂.heap.get? a = none → (hideAll s₂.heap [I]).get? a = none := fun a e => by
    cases q : (hideAll s₂.heap [I]).get? a with
    | none => rfl
    | some o => rw [of_hideAll _ q] at e; cases e
  have Fr₁ : Fr (hideAll s₂.heap [I]) H2.objs.size h₁ (fun z => ([] : List (Str × Value)).reverse.lookup z) := ⟨hns₁, fun b o e => old b o (of_hideAll _ e), by rw [hideAll_size, hC]; exact Nat.le_succ _⟩
  have loop : ∀ s₃ : Shared, s₃ = { s₂ with heap := h₁, toks := s₂.toks + ([] : List (Str × Value)).length } →
      codeAny (model prog w) A (.compLoop (.ListComp elt [⟨.Name x px, iter, ifs, 0⟩] scope pos) 0 (.ref I) (.ref s₂.heap.objs.size) (compEnvC scope cl H2.objs.size env))
        (RR (.ref s₂.heap.objs.size) H2.objs.size) s₃ := by
    rintro s₃ rfl
    refine compLoopW (cenv := compEnvC scope cl H2.objs.size env) (g := hideAll s₂.heap [I]) W hsz pz R' hmono (lookup_relabel_local hx) (by simp [compEnvC, relabel, hkind]) hDC hDf hCf (hideAll_none _ (.head _)) (gn _ (fresh _ (Nat.le_refl _))) hIo hst₁ hacc Fr₁
      (fun i v m₁ h tk oI oD E' hi hP F N => htests _ _ i v m₁ h tk oI oD E' hi hP F N) (fun i v m₁ h tk oI oD E' hi hP hz F N => helt _ _ i v m₁ h tk oI oD E' hi hP hz F N) fun h' tk m' ys ep sup F hD hS hS' hF => ?_
    refine hRR _ _ h' tk m' ys ep sup (fresh _ (Nat.le_refl _)) (fresh _ (by rw [hC]; exact Nat.le_succ _)) hDC F.ns hD ?_ (fun p hp => ⟨(hS' p hp).1, (hS' p hp).2.2⟩) hF fun b o hb e => F.keep b o (hideAll_get _ e (by rw [List.mem_singleton]; exact hb))
    intro p hp
    refine ⟨(hS p hp).1, ?_⟩
    cases q : s₂.heap.get? p.1 with
    | none => rfl
    | some o =>
      exfalso
      by_cases hq : p.1 = I
      · exact (hS' p hp).2.1 hq
      · have := (hS p hp).2
        rw [hideAll_get _ q (by rw [List.mem_singleton]; exact hq)] at this
        cases this
  exact codeAny_compStart_list (loop _ rfl) (W.self 0 _ _ _ hst₁ (loop _ rfl))
/-- a comprehension as a value -/
theorem compW {s : Shared} {elt iter : Expr} {x : Str} {px : Pos} {ifs : List Expr} {scope : Scope} {cl : List (Str × Addr)} {pos : Pos} {Q : Value → Shared → Prop} (pz : Nat → Bool) (R' : Nat → Value → List (Addr × Obj) → Prop)
    (hmono : ∀ i y sup sup', R' i y sup → (∀ p ∈ sup, p ∈ sup') → R' i y sup')
    (hclos : closureFor scope env = pure cl) (hcell : ∀ y ∈ scope.names, y.2 ≠ .cell) (hkind : scope.kind = .function)
    (hnames : ∀ y ∈ scope.names, y.2 = .local → scope.names.lookup y.1 = some .local) (hx : scope.names.lookup x = some .local)
    (h : wpAny (model prog w) A (eval iter env) (fun xv s₁ => wpAny (model prog w) A (pyIter xv) (fun it s₂ => CAt prog w A env scope cl x ifs elt pz R' Q it s₂) E s₁) E s)
    (hs : ∀ x, foldedSetIterable iter env x = pure x) :
    wpAny (model prog w) A (eval (.ListComp elt [⟨.Name x px, iter, ifs, 0⟩] scope pos) env) Q E s := by
  rw [eval_ListComp]
  refine wpAny_comprehension_free (use := none) rfl hs hclos hkind hnames (wpAny_mono h (fun xv s₁ h₁ => wpAny_mono h₁ (fun it s₂ h₂ => ?_) fun _ _ e => e) fun _ _ e => e)
  obtain ⟨I, fp, n, P, St, rfl, W, hsz, hst, hfp, hIo, ht, he, hQ⟩ := h₂
  refine compBlockW (RR := fun acc C => compPost (model prog w) A E none Q acc C) W hsz pz R' hmono hcell hkind hx hst hfp hIo ht he ?_
  intro D C h' tk m' ys ep sup hD hC hDC hn hl hS hS' hF hk
  refine ⟨m', hn, fun h'' hs'' => hQ D h'' tk ys ep sup hD ((hs''.2 D hDC).trans hl) (fun p hp => ⟨(hs''.2 _ (hS' p hp).2).trans (hS p hp).1, (hS p hp).2⟩) (fun p hp => (hS' p hp).1) hF fun b o hb e => ?_⟩
  exact (hs''.2 b fun q => by rw [q, hC] at e; cases e).trans (hk b o hb e)
/-- a comprehension stored into a name of the frame -/
theorem compAssignW {s : Shared} {elt iter : Expr} {x y : Str} {px py : Pos} {ifs : List Expr} {scope : Scope} {cl : List (Str × Addr)} {pos spos : Pos} {Q : Flow → Shared → Prop} (pz : Nat → Bool) (R' : Nat → Value → List (Addr × Obj) → Prop)
    (hmono : ∀ i y sup sup', R' i y sup → (∀ p ∈ sup, p ∈ sup') → R' i y sup')
    (hsw : swapsWith (.ListComp elt [⟨.Name x px, iter, ifs, 0⟩] scope pos) (some (.Name y py)) spos.line env = pure true)
    (hclos : closureFor scope env = pure cl) (hcell : ∀ y ∈ scope.names, y.2 ≠ .cell) (hkind : scope.kind = .function)
    (hnames : ∀ y ∈ scope.names, y.2 = .local → scope.names.lookup y.1 = some .local) (hx : scope.names.lookup x = some .local)
    (hy : env.kindOf y = some .local) (hp : (env.scope.kind == .class || (env.scope.kind == .module && env.locals != env.globals)) = false)
    (h : wpAny (model prog w) A (eval iter env) (fun xv s₁ => wpAny (model prog w) A (pyIter xv) (fun it s₂ => CAtA prog w A env scope cl x ifs elt pz R' y Q it s₂) E s₁) E s)
    (hs : ∀ x, foldedSetIterable iter env x = pure x) :
    wpAny (model prog w) A (exec (.Assign [.Name y py] (.ListComp elt [⟨.Name x px, iter, ifs, 0⟩] scope pos) spos) env) Q E s := by
  rw [exec_Assign_Name_used _ _ _ _ hsw]
  refine wpAny_bind (wpAny_standAt (wpAny_bind ?_))
  show wpAny _ A (do let _ ← comprehension (.ListComp elt [⟨.Name x px, iter, ifs, 0⟩] scope pos) scope env _ (newList []) false (eval iter env) (some (assign (.Name y py) env))) _ _ s
  refine wpAny_bind (wpAny_mono (wpAny_comprehension_free (use := some (assign (.Name y py) env)) (Q := fun _ s' => Q .next s') rfl hs hclos hkind hnames
    (wpAny_mono h (fun xv s₁ h₁ => wpAny_mono h₁ (fun it s₂ h₂ => ?_) fun _ _ e => e) fun _ _ e => e)) (fun _ s' hq => wpAny_pure (wpAny_pure hq)) fun _ _ e => e)
  obtain ⟨I, fp, n, P, St, m, rfl, W, hsz, hst, hfp, hIo, hLI, hn, ht, he, hQ⟩ := h₂
  refine compBlockW (RR := fun acc C => compPost (model prog w) A E (some (assign (.Name y py) env)) (fun _ s' => Q .next s') acc C) W hsz pz R' hmono hcell hkind hx hst hfp hIo ht he ?_
  intro D C h' tk m' ys ep sup hD hC hDC hnC hlD hS hS' hF hk
  have hLn : ∃ o, s₂.heap.get? env.locals = some o := by obtain ⟨o, _, _, ho, _⟩ := hn; exact ⟨o, ho⟩
  obtain ⟨oL, hoL⟩ := hLn
  have hLC : env.locals ≠ C := fun q => by rw [q, hC] at hoL; cases hoL
  have hLD : env.locals ≠ D := fun q => by rw [q, hD] at hoL; cases hoL
  show wpAny _ A (assign (.Name y py) env (.ref D)) _ _ _
  refine wpAny_assign_Name (wpAny_storeName_local hy (hn.at' fun o e => hk _ o hLI e) (fun h₂ hn₂ hs₂ => ?_) hp)
  refine ⟨m', hnC.sameBut hs₂ (Ne.symm hLC), fun h₃ hs₃ => ?_⟩
  refine hQ D h₃ _ ys ep sup hD ((hs₃.2 D hDC).trans ((hs₂.2 D (Ne.symm hLD)).trans hlD)) (fun p hp => ⟨?_, (hS p hp).2⟩) (fun p hp => (hS' p hp).1) hF (hn₂.sameBut hs₃ hLC) fun b o hbL hb e => ?_
  · refine (hs₃.2 _ (hS' p hp).2).trans ((hs₂.2 _ fun q => ?_).trans (hS p hp).1)
    have := (hS p hp).2
    rw [q, hoL] at this; cases this
  · exact (hs₃.2 b fun q => by rw [q, hC] at e; cases e).trans ((hs₂.2 b hbL).trans (hk b o hb e))
end
section
variable {M : Model} {A : Around} {E : Value → Shared → Prop} {s : Shared} {h₀ : Heap} {env : Env} {m mg mb : Str → Option Value} {K : Frag} {p : Program} {loose : List Str} {mean : ExcName → Option Value}
  {x : Str} {pos : Pos} {v : Value} {Q : Value → Shared → Prop} {c : Addr} {o : Obj}
/- names of a block of any kind -/
theorem nameAL (F : Fr h₀ env.locals s.heap m) (hk : env.scope.kind = .function) (hx : env.kindOf x = some .local) (hv : m x = some v) (h : Q v s) (hd : (x == ("__debug__" : Str)) = false := by decide) :
    wpAny M A (eval (.Name x pos) env) Q E s := wpAny_Name (wpAny_loadName_local hk hx F.ns hv h) hd
theorem nameAC (F : Fr h₀ env.locals s.heap m) (hk : env.scope.kind = .function) (hx : env.kindOf x = some .cell) (hc : env.cells.lookup x = some c) (ho : h₀.get? c = some o) (hd : o.data = .cell (some v)) (h : Q v s) (hb : (x == ("__debug__" : Str)) = false := by decide) :
    wpAny M A (eval (.Name x pos) env) Q E s := wpAny_Name (wpAny_loadName_cell hk hx hc ⟨o, F.keep _ _ ho, hd⟩ h) hb
theorem nameAG (F : Fr h₀ env.locals s.heap m) (X : K.In h₀) (T : Top p loose mean mg mb h₀) (hk : env.scope.kind = .function) (hx : env.kindOf x = some .globalImplicit) (hg : env.globals = mainGlobals) (e : nsIn K mainGlobals x = some (some v)) (h : Q v s) (hd : (x == ("__debug__" : Str)) = false := by decide) :
    wpAny M A (eval (.Name x pos) env) Q E s := Name_function_global hk hx (loadGlobal_global (env := env) (by rw [hg]; exact T.g.keeps F.keep) (mg_of X T.g e) h) hd
theorem nameAB (F : Fr h₀ env.locals s.heap m) (X : K.In h₀) (T : Top p loose mean mg mb h₀) (hk : env.scope.kind = .function) (hx : env.kindOf x = some .globalImplicit) (hg : env.globals = mainGlobals) (hbn : env.builtins = builtinsNs) (e : nsIn K mainGlobals x = some none) (hv : bootBuiltins x = some v) (hn : x ≠ "__name__") (h : Q v s) (hd : (x == ("__debug__" : Str)) = false := by decide) :
    wpAny M A (eval (.Name x pos) env) Q E s := Name_function_global hk hx (loadGlobal_builtin (env := env) (by rw [hg]; exact T.g.keeps F.keep) (mg_none_of X T.g e) (by rw [hbn]; exact T.b.keeps F.keep) ((T.builtins x hn).trans hv) h) hd
end
theorem hide1 {h : Heap} {I b : Addr} {o : Obj} (e : h.get? b = some o) (hb : b ≠ I) : (hideAll h [I]).get? b = some o := hideAll_get _ e (by rw [List.mem_singleton]; exact hb)
theorem hideK {h₀ h : Heap} {I : Addr} (k : Keep h₀ h) (hn : h₀.get? I = none) : Keep h₀ (hideAll h [I]) := fun b o e => hide1 (k b o e) fun q => by rw [q, hn] at e; cases e
theorem allNe_mem {d : Nat} {news : List (Addr × Obj)} (h : AllNe d news) (p : Addr × Obj) (hp : p ∈ news) : p.1 ≠ d := by
  induction news with
  | nil => cases hp
  | cons q r ih =>
    rcases List.mem_cons.mp hp with rfl | hp
    · exact h.1
    · exact ih h.2 hp
section
variable (prog : Program) (w : World) (A : Around) (env : Env) (scope : Scope) (cl : List (Str × Addr)) (x : Str) (ifs : List Expr) (elt : Expr) (n : Nat) (pz : Nat → Bool) (f : Nat → Int) (h₀ : Heap)
def SrcT (s₂ : Shared) (I : Addr) (P : Nat → Value → Prop) : Prop := ∀ C D g i v (m₁ : Str → Option Value) h tk oI oD E', i < n → P i v → Keep h₀ g → (∀ b o, b ≠ I → s₂.heap.get? b = some o → g.get? b = some o) → Fr g C h (fun y => if y = x then some v else m₁ y) → News g C h [(D, oD), (I, oI)] →
  wpAny (model prog w) A (forIn ifs true fun c r => if r = true then do let ok ← isTrue c (compEnvC scope cl C env) (eval c (compEnvC scope cl C env)); pure (ForInStep.yield ok) else pure (ForInStep.yield r))
    (fun ok s₃ => Hold (∃ h' tk', s₃ = { s₂ with heap := h', toks := tk' } ∧ Keep h h' ∧ ok = pz i)) E' { s₂ with heap := h, toks := tk }
def SrcE (s₂ : Shared) (I : Addr) (P : Nat → Value → Prop) : Prop := ∀ C D g i v (m₁ : Str → Option Value) h tk oI oD E', i < n → P i v → pz i = true → Keep h₀ g → (∀ b o, b ≠ I → s₂.heap.get? b = some o → g.get? b = some o) → Fr g C h (fun y => if y = x then some v else m₁ y) → News g C h [(D, oD), (I, oI)] →
  wpAny (model prog w) A (eval elt (compEnvC scope cl C env)) (fun y s₃ => Hold (∃ t h' tk', s₃ = { s₂ with heap := h', toks := tk' } ∧ Keep h h' ∧ y = .int (f i) t)) E' { s₂ with heap := h, toks := tk }
/-- a source of a comprehension of ints, as it stands behind the iterator's making -/
inductive Src (m : Str → Option Value) (news : List (Addr × Obj)) (it : Value) (s₂ : Shared) : Prop
  | mk (I : Addr) (oI : Obj) (fp : List Addr) (P : Nat → Value → Prop) (St : Nat → Heap → Prop) (e : it = .ref I) (W : Walks prog w A I fp [I] n P St) (sz : n ≤ sizeLine) (st : St 0 s₂.heap) (hfp : ∀ b ∈ fp, b < s₂.heap.objs.size) (hIo : ∀ i h, St i h → ∃ o, h.get? I = some o)
    (F : Fr h₀ env.locals s₂.heap m) (N : News h₀ env.locals s₂.heap ((I, oI) :: news)) (ne : AllNe I news) (ht : SrcT prog w A env scope cl x ifs n pz h₀ s₂ I P) (he : SrcE prog w A env scope cl x elt n pz f h₀ s₂ I P)
end
theorem ints_of_paired {f : Nat → Int} : ∀ {is : List Nat} {ys : List Value}, Paired (fun i y => ∃ t, y = .int (f i) t) is ys → IntsAre ys (is.map f)
  | _, _, .nil => .nil
  | _, _, .cons ⟨t, e⟩ r => by subst e; exact .cons _ t (ints_of_paired r)
section
variable {prog : Program} {w : World} {A : Around} {E : Value → Shared → Prop} {env : Env}
theorem compI {s : Shared} {elt iter : Expr} {x : Str} {px : Pos} {ifs : List Expr} {scope : Scope} {cl : List (Str × Addr)} {pos : Pos} {Q : Value → Shared → Prop} (n : Nat) (pz : Nat → Bool) (f : Nat → Int) {h₀ : Heap} {m : Str → Option Value} {news : List (Addr × Obj)} (_F₀ : Fr h₀ env.locals s.heap m) (_N₀ : News h₀ env.locals s.heap news)
    (hclos : closureFor scope env = pure cl) (hcell : ∀ y ∈ scope.names, y.2 ≠ .cell) (hkind : scope.kind = .function)
    (hnames : ∀ y ∈ scope.names, y.2 = .local → scope.names.lookup y.1 = some .local) (hx : scope.names.lookup x = some .local)
    (h : wpAny (model prog w) A (eval iter env) (fun xv s₁ => wpAny (model prog w) A (pyIter xv) (fun it s₂ => Src prog w A env scope cl x ifs elt n pz f h₀ m news it s₂ ∧
      (∀ D vs ep h' tk, Fr h₀ env.locals h' m → News h₀ env.locals h' ((D, PySem.W.listOf (vs : List Value).toArray ep) :: news) → AllNe D news → IntsAre vs (((List.range n).filter pz).map f) → (∀ b o, it ≠ .ref b → s₂.heap.get? b = some o → h'.get? b = some o) → Q (.ref D) { s₂ with heap := h', toks := tk })) E s₁) E s)
    (hs : ∀ x, foldedSetIterable iter env x = pure x) :
    wpAny (model prog w) A (eval (.ListComp elt [⟨.Name x px, iter, ifs, 0⟩] scope pos) env) Q E s := by
  refine compW pz (fun i y _ => ∃ t, y = .int (f i) t) (fun _ _ _ _ h _ => h) hclos hcell hkind hnames hx (wpAny_mono h (fun xv s₁ h₁ => wpAny_mono h₁ (fun it s₂ h₂ => ?_) fun _ _ e => e) fun _ _ e => e) hs
  obtain ⟨⟨I, oI, fp, P, St, rfl, W, hsz, hst, hfp, hIo, F, N, ne, ht, he⟩, hQ⟩ := h₂
  have hI0 : h₀.get? I = none := N.fresh (.head _)
  have hIL : I ≠ env.locals := (N _ (.head _)).2.1
  refine ⟨I, fp, n, P, St, rfl, W, hsz, hst, hfp, hIo, ?_, ?_, ?_⟩
  · intro C D i v m₁ h tk oI oD E' hi hP F' N'
    exact ht C D _ i v m₁ h tk oI oD E' hi hP (hideK F.keep hI0) (fun b o hb e => hide1 e hb) F' N'
  · intro C D i v m₁ h tk oI oD E' hi hP hz F' N'
    refine wpAny_mono (he C D _ i v m₁ h tk oI oD E' hi hP hz (hideK F.keep hI0) (fun b o hb e => hide1 e hb) F' N') (fun y s₃ h₃ => ?_) fun _ _ e => e
    obtain ⟨t, h', tk', e, k, ey⟩ := h₃
    exact ⟨h', tk', [], e, k, (fun _ h => nomatch h), t, ey⟩
  · intro D h' tk ys ep sup hD hl _ _ hF hk
    have kI : KeepB I s₂.heap h' := fun b o hb e => hk b o hb e
    have F' := frKeepB F kI hI0 (Ne.symm hIL)
    have N1 : News h₀ env.locals h' news := fun p hp => ⟨kI _ _ (fun q => (allNe_mem ne p hp) q) (N p (.tail _ hp)).1, (N p (.tail _ hp)).2⟩
    refine hQ D ys ep h' tk F' ?_ (newsNe hD fun p hp => N p (.tail _ hp)) (ints_of_paired hF) (fun b o hb e => hk b o (fun q => hb (q ▸ rfl)) e)
    intro p hp
    rcases List.mem_cons.mp hp with rfl | hp
    · refine ⟨hl, fun e => ?_, ?_⟩
      · obtain ⟨oL, _, _, hL, _⟩ := F.ns
        rw [show D = env.locals from e, hL] at hD; cases hD
      · cases q : h₀.get? D with
        | none => rfl
        | some o' => rw [F.keep _ _ q] at hD; cases hD
    · exact N1 p hp
theorem compAssignI {s : Shared} {elt iter : Expr} {x y : Str} {px py : Pos} {ifs : List Expr} {scope : Scope} {cl : List (Str × Addr)} {pos spos : Pos} {Q : Flow → Shared → Prop} (n : Nat) (pz : Nat → Bool) (f : Nat → Int) {h₀ : Heap} {m : Str → Option Value} {news : List (Addr × Obj)} (_F₀ : Fr h₀ env.locals s.heap m) (_N₀ : News h₀ env.locals s.heap news)
    (hsw : swapsWith (.ListComp elt [⟨.Name x px, iter, ifs, 0⟩] scope pos) (some (.Name y py)) spos.line env = pure true)
    (hclos : closureFor scope env = pure cl) (hcell : ∀ y ∈ scope.names, y.2 ≠ .cell) (hkind : scope.kind = .function)
    (hnames : ∀ y ∈ scope.names, y.2 = .local → scope.names.lookup y.1 = some .local) (hx : scope.names.lookup x = some .local)
    (hy : env.kindOf y = some .local) (hp : (env.scope.kind == .class || (env.scope.kind == .module && env.locals != env.globals)) = false)
    (h : wpAny (model prog w) A (eval iter env) (fun xv s₁ => wpAny (model prog w) A (pyIter xv) (fun it s₂ => Src prog w A env scope cl x ifs elt n pz f h₀ m news it s₂ ∧
      (∀ D vs ep h' tk, Fr h₀ env.locals h' (fun z => if z = y then some (.ref D) else m z) → News h₀ env.locals h' ((D, PySem.W.listOf (vs : List Value).toArray ep) :: news) → AllNe D news → IntsAre vs (((List.range n).filter pz).map f) → Q .next { s₂ with heap := h', toks := tk })) E s₁) E s)
    (hs : ∀ x, foldedSetIterable iter env x = pure x) :
    wpAny (model prog w) A (exec (.Assign [.Name y py] (.ListComp elt [⟨.Name x px, iter, ifs, 0⟩] scope pos) spos) env) Q E s := by
  refine compAssignW pz (fun i y _ => ∃ t, y = .int (f i) t) (fun _ _ _ _ h _ => h) hsw hclos hcell hkind hnames hx hy hp (wpAny_mono h (fun xv s₁ h₁ => wpAny_mono h₁ (fun it s₂ h₂ => ?_) fun _ _ e => e) fun _ _ e => e) hs
  obtain ⟨⟨I, oI, fp, P, St, rfl, W, hsz, hst, hfp, hIo, F, N, ne, ht, he⟩, hQ⟩ := h₂
  have hI0 : h₀.get? I = none := N.fresh (.head _)
  have hIL : I ≠ env.locals := (N _ (.head _)).2.1
  refine ⟨I, fp, n, P, St, m, rfl, W, hsz, hst, hfp, hIo, Ne.symm hIL, F.ns, ?_, ?_, ?_⟩
  · intro C D i v m₁ h tk oI oD E' hi hP F' N'
    exact ht C D _ i v m₁ h tk oI oD E' hi hP (hideK F.keep hI0) (fun b o hb e => hide1 e hb) F' N'
  · intro C D i v m₁ h tk oI oD E' hi hP hz F' N'
    refine wpAny_mono (he C D _ i v m₁ h tk oI oD E' hi hP hz (hideK F.keep hI0) (fun b o hb e => hide1 e hb) F' N') (fun y s₃ h₃ => ?_) fun _ _ e => e
    obtain ⟨t, h', tk', e, k, ey⟩ := h₃
    exact ⟨h', tk', [], e, k, (fun _ h => nomatch h), t, ey⟩
  · intro D h' tk ys ep sup hD hl _ _ hF hns hk
    have oldL : ∀ b o, h₀.get? b = some o → b ≠ env.locals ∧ b ≠ I := fun b o e => ⟨fun q => by
      rw [q] at e
      exact absurd (Nat.lt_of_lt_of_le (Heap.lt_size e) F.above) (Nat.lt_irrefl _), fun q => by rw [q, hI0] at e; cases e⟩
    have F' : Fr h₀ env.locals h' (fun z => if z = y then some (.ref D) else m z) := ⟨hns, fun b o e => hk b o (oldL b o e).1 (oldL b o e).2 (F.keep b o e), F.above⟩
    have N1 : News h₀ env.locals h' news := fun p hp => ⟨hk _ _ (N p (.tail _ hp)).2.1 (fun q => (allNe_mem ne p hp) q) (N p (.tail _ hp)).1, (N p (.tail _ hp)).2⟩
    refine hQ D ys ep h' tk F' ?_ (newsNe hD fun p hp => N p (.tail _ hp)) (ints_of_paired hF)
    intro p hp
    rcases List.mem_cons.mp hp with rfl | hp
    · refine ⟨hl, fun e => ?_, ?_⟩
      · obtain ⟨oL, _, _, hL, _⟩ := F.ns
        rw [show D = env.locals from e, hL] at hD; cases hD
      · cases q : h₀.get? D with
        | none => rfl
        | some o' => rw [F.keep _ _ q] at hD; cases hD
    · exact N1 p hp
end
end Mine
end
section
open PySem PySem.W PySem.Calls PyProof.Rows
set_option maxRecDepth 100000
namespace Mine
section
variable {prog : Program} {w : World} {A : Around} {E : Value → Shared → Prop} {s : Shared} {env : Env} {scope : Scope} {cl : List (Str × Addr)} {x : Str} {ifs : List Expr} {elt : Expr} {n : Nat} {pz : Nat → Bool} {f : Nat → Int} {h₀ : Heap} {m : Str → Option Value} {news : List (Addr × Obj)} {Q : Value → Shared → Prop}
theorem sizeNone (h : Heap) : h.get? h.objs.size = none := by
  cases q : h.get? h.objs.size with
  | none => rfl
  | some o' => exact absurd (Heap.lt_size q) (Nat.lt_irrefl _)
theorem pushNews {o : Obj} (F : Fr h₀ env.locals s.heap m) (N : News h₀ env.locals s.heap news) (hf : o.isFreed = false) : Fr h₀ env.locals (s.heap.push o) m ∧ News h₀ env.locals (s.heap.push o) ((s.heap.objs.size, o) :: news) ∧ AllNe s.heap.objs.size news :=
  ⟨F.push _, N.push F _ hf, newsNe (by
    cases q : s.heap.get? s.heap.objs.size with
    | none => rfl
    | some o' => exact absurd (Heap.lt_size q) (Nat.lt_irrefl _)) N⟩
theorem srcList {l : Addr} {items : Array Value} {L : Addr} (hh : A.handled = none) (F : Fr h₀ L s.heap m) (N : News h₀ L s.heap news) (hl : s.heap.IsList l items) (hsz : items.size = n) (hn : n ≤ sizeLine) (hL : env.locals = L)
    (ht : ∀ C D I g i v (m₁ : Str → Option Value) h tk oI oD E', i < n → items[i]? = some v → Keep s.heap g → Fr g C h (fun y => if y = x then some v else m₁ y) → News g C h [(D, oD), (I, oI)] →
        wpAny (model prog w) A (forIn ifs true fun c r => if r = true then do let ok ← isTrue c (compEnvC scope cl C env) (eval c (compEnvC scope cl C env)); pure (ForInStep.yield ok) else pure (ForInStep.yield r))
          (fun ok s₃ => Hold (∃ h' tk', s₃ = { s with heap := h', toks := tk' } ∧ Keep h h' ∧ ok = pz i)) E' { s with heap := h, toks := tk })
    (he : ∀ C D I g i v (m₁ : Str → Option Value) h tk oI oD E', i < n → items[i]? = some v → pz i = true → Keep s.heap g → Fr g C h (fun y => if y = x then some v else m₁ y) → News g C h [(D, oD), (I, oI)] →
        wpAny (model prog w) A (eval elt (compEnvC scope cl C env)) (fun y s₃ => Hold (∃ t h' tk', s₃ = { s with heap := h', toks := tk' } ∧ Keep h h' ∧ y = .int (f i) t)) E' { s with heap := h, toks := tk })
    (k : ∀ I h', s.heap.get? I = none → Keep s.heap h' → Q (.ref I) { s with heap := h' }) : wpAny (model prog w) A (pyIter (.ref l)) (fun it s₂ => Src prog w A env scope cl x ifs elt n pz f h₀ m news it s₂ ∧ Q it s₂) E s := by
  subst hL
  refine wpAny_pyIter_list hl ⟨?_, k _ _ (sizeNone _) fun b o e => Heap.get?_push_of_some _ e⟩
  obtain ⟨F', N', ne⟩ := pushNews (o := { cls := .type "list_iterator", data := .fields #[.ref l, .int 0 0] }) F N rfl
  have hlt : l < s.heap.objs.size := by obtain ⟨o, ho, _⟩ := hl; exact Heap.lt_size ho
  have hne : l ≠ s.heap.objs.size := Nat.ne_of_lt hlt
  subst hsz
  refine ⟨_, _, _, _, _, rfl, Walks.list hh _ l hne items, hn, ⟨⟨_, Heap.get?_push_size _ rfl, rfl, rfl⟩, hl.at fun o e => Heap.get?_push_of_some _ e⟩, ?_, ?_, F', N', ne, ?_, ?_⟩
  · intro b hb
    show b < (s.heap.push _).objs.size
    rw [Heap.size_push]
    rcases List.mem_cons.mp hb with rfl | hb
    · exact Nat.lt_succ_self _
    · rw [List.mem_singleton.mp hb]; exact Nat.lt_succ_of_lt hlt
  · rintro i h ⟨⟨o, ho, _⟩, _⟩
    exact ⟨o, ho⟩
  · intro C D g i v m₁ h tk oI oD E' hi hP _ hk F'' N''
    exact ht C D _ g i v m₁ h tk oI oD E' hi hP (fun b o e => hk b o (Nat.ne_of_lt (Heap.lt_size e)) (Heap.get?_push_of_some _ e)) F'' N''
  · intro C D g i v m₁ h tk oI oD E' hi hP hz _ hk F'' N''
    exact he C D _ g i v m₁ h tk oI oD E' hi hP hz (fun b o e => hk b o (Nat.ne_of_lt (Heap.lt_size e)) (Heap.get?_push_of_some _ e)) F'' N''
theorem srcRange {r : Addr} {t u u' : Tok} {L : Addr} (hh : A.handled = none) (F : Fr h₀ L s.heap m) (N : News h₀ L s.heap news) (hr : IsRange s.heap r 0 (n : Int) 1 t u u') (hn : n ≤ sizeLine) (hL : env.locals = L)
    (ht : ∀ C D I g i v (m₁ : Str → Option Value) h tk oI oD E', i < n → (∃ t, v = .int (i : Int) t) → Keep s.heap g → Fr g C h (fun y => if y = x then some v else m₁ y) → News g C h [(D, oD), (I, oI)] →
        wpAny (model prog w) A (forIn ifs true fun c r => if r = true then do let ok ← isTrue c (compEnvC scope cl C env) (eval c (compEnvC scope cl C env)); pure (ForInStep.yield ok) else pure (ForInStep.yield r))
          (fun ok s₃ => Hold (∃ h' tk', s₃ = { s with heap := h', toks := tk' } ∧ Keep h h' ∧ ok = pz i)) E' { s with heap := h, toks := tk })
    (he : ∀ C D I g i v (m₁ : Str → Option Value) h tk oI oD E', i < n → (∃ t, v = .int (i : Int) t) → pz i = true → Keep s.heap g → Fr g C h (fun y => if y = x then some v else m₁ y) → News g C h [(D, oD), (I, oI)] →
        wpAny (model prog w) A (eval elt (compEnvC scope cl C env)) (fun y s₃ => Hold (∃ t h' tk', s₃ = { s with heap := h', toks := tk' } ∧ Keep h h' ∧ y = .int (f i) t)) E' { s with heap := h, toks := tk })
    (k : ∀ I h', s.heap.get? I = none → Keep s.heap h' → Q (.ref I) { s with heap := h' }) : wpAny (model prog w) A (pyIter (.ref r)) (fun it s₂ => Src prog w A env scope cl x ifs elt n pz f h₀ m news it s₂ ∧ Q it s₂) E s := by
  subst hL
  have hsl : n ≤ 16777216 := by rw [sizeLine_eq] at hn; exact hn
  have hs : Builtin.Range.rangeSize 0 n 1 = n := by rw [rangeSize_one]; split <;> omega
  refine wpAny_pyIter_range hr ?_ ⟨?_, k _ _ (sizeNone _) fun b o e => Heap.get?_push_of_some _ e⟩
  · unfold Builtin.Range.small
    rw [hs]
    simp [Builtin.Range.rangeFitsLong]
    omega
  rw [hs]
  obtain ⟨F', N', ne⟩ := pushNews (o := { cls := .type "range_iterator", data := .fields #[rawInt 0, rawInt n, rawInt 1] }) F N rfl
  refine ⟨_, _, _, _, _, rfl, Walks.range hh _ 0 1 n, hn, ?_, ?_, ?_, F', N', ne, ?_, ?_⟩
  · show (s.heap.push _).get? _ = _
    simp only [Int.natCast_zero, Int.zero_mul, Int.add_zero, Int.sub_zero]
    exact Heap.get?_push_size _ rfl
  · intro b hb
    show b < (s.heap.push _).objs.size
    rw [Heap.size_push, List.mem_singleton.mp hb]
    exact Nat.lt_succ_self _
  · intro i h e
    exact ⟨_, e⟩
  · rintro C D g i v m₁ h tk oI oD E' hi ⟨tt, e⟩ _ hk F'' N''
    exact ht C D _ g i v m₁ h tk oI oD E' hi ⟨tt, by rw [e]; simp⟩ (fun b o e => hk b o (Nat.ne_of_lt (Heap.lt_size e)) (Heap.get?_push_of_some _ e)) F'' N''
  · rintro C D g i v m₁ h tk oI oD E' hi ⟨tt, e⟩ hz _ hk F'' N''
    exact he C D _ g i v m₁ h tk oI oD E' hi ⟨tt, by rw [e]; simp⟩ hz (fun b o e => hk b o (Nat.ne_of_lt (Heap.lt_size e)) (Heap.get?_push_of_some _ e)) F'' N''
theorem srcRev {I l : Addr} {items : Array Value} {z : Int} {L : Addr} (hh : A.handled = none) (F : Fr h₀ L s.heap m) (N : News h₀ L s.heap ((I, revObj l z) :: news)) (ne : AllNe I news) (hz : z = (n : Int) - 1) (hl : s.heap.IsList l items) (hsz : items.size = n) (hn : n ≤ sizeLine) (hL : env.locals = L)
    (ht : ∀ C D g i v (m₁ : Str → Option Value) h tk oI oD E', i < n → items[n - 1 - i]? = some v → (∀ b o, b ≠ I → s.heap.get? b = some o → g.get? b = some o) → Fr g C h (fun y => if y = x then some v else m₁ y) → News g C h [(D, oD), (I, oI)] →
        wpAny (model prog w) A (forIn ifs true fun c r => if r = true then do let ok ← isTrue c (compEnvC scope cl C env) (eval c (compEnvC scope cl C env)); pure (ForInStep.yield ok) else pure (ForInStep.yield r))
          (fun ok s₃ => Hold (∃ h' tk', s₃ = { s with heap := h', toks := tk' } ∧ Keep h h' ∧ ok = pz i)) E' { s with heap := h, toks := tk })
    (he : ∀ C D g i v (m₁ : Str → Option Value) h tk oI oD E', i < n → items[n - 1 - i]? = some v → pz i = true → (∀ b o, b ≠ I → s.heap.get? b = some o → g.get? b = some o) → Fr g C h (fun y => if y = x then some v else m₁ y) → News g C h [(D, oD), (I, oI)] →
        wpAny (model prog w) A (eval elt (compEnvC scope cl C env)) (fun y s₃ => Hold (∃ t h' tk', s₃ = { s with heap := h', toks := tk' } ∧ Keep h h' ∧ y = .int (f i) t)) E' { s with heap := h, toks := tk })
    (k : Q (.ref I) s) : wpAny (model prog w) A (pyIter (.ref I)) (fun it s₂ => Src prog w A env scope cl x ifs elt n pz f h₀ m news it s₂ ∧ Q it s₂) E s := by
  subst hL
  have gI := N.get (.head _)
  have hne : l ≠ I := fun q => by
    obtain ⟨o, ho, hc, _⟩ := hl
    rw [q, gI] at ho; cases ho; exact absurd hc (by simp [revObj])
  refine wpAny_pyIter_revIter ⟨_, gI, rfl, rfl⟩ ⟨?_, k⟩
  subst hsz
  refine ⟨_, _, _, _, _, rfl, Walks.listRev hh I l hne items, hn, ⟨Nat.zero_le _, ⟨_, gI, rfl, by rw [hz]; show Data.fields _ = _; simp⟩, hl⟩, ?_, ?_, F, N, ne, ?_, ?_⟩
  · intro b hb
    rcases List.mem_cons.mp hb with rfl | hb
    · exact Heap.lt_size gI
    · rw [List.mem_singleton.mp hb]
      obtain ⟨o, ho, _⟩ := hl
      exact Heap.lt_size ho
  · rintro i h ⟨_, ⟨o, ho, _⟩, _⟩
    exact ⟨o, ho⟩
  · intro C D g i v m₁ h tk oI oD E' hi hP _ hk F'' N''
    exact ht C D g i v m₁ h tk oI oD E' hi hP hk F'' N''
  · intro C D g i v m₁ h tk oI oD E' hi hP hz _ hk F'' N''
    exact he C D g i v m₁ h tk oI oD E' hi hP hz hk F'' N''
end
end Mine
end
section
open PySem PySem.W PySem.Calls PyProof.Rows
set_option maxRecDepth 100000
namespace Mine
theorem nolen_lri : typeLookup (.type "list_reverseiterator") "__len__" = pure none := by rw [typeLookup_type, builtinLookup_eq_fast]; kernel_rfl
theorem hint_lri : typeLookup (.type "list_reverseiterator") "__length_hint__" = pure (some (.builtin "list_reverseiterator.__length_hint__")) := by rw [typeLookup_type, builtinLookup_eq_fast]; kernel_rfl
section
variable {prog : Program} {w : World} {A : Around} {E : Value → Shared → Prop} {s : Shared} {I l : Addr} {items : Array Value}
theorem hintRev {z : Int} {Q : Bool → Shared → Prop} (hI : s.heap.IsRevIter I l z) (h : Q false s) : wpAny (model prog w) A (Builtin.List.listLengthHint (.ref I)) Q E s := by
  unfold Builtin.List.listLengthHint
  refine wpAny_bind (wpAny_specialOf hI.typeIs nolen_lri ?_)
  show wpAny _ A (specialOf (Value.ref I) (Str.ofString "__length_hint__") >>= _) _ _ _
  refine wpAny_bind (wpAny_specialOf hI.typeIs hint_lri ?_)
  generalize hid : ("list_reverseiterator.__length_hint__" : String) = id0
  wp_delta
  rw [show splitId id0 = some ("list_reverseiterator", "__length_hint__") from by subst hid; decide +kernel]
  subst hid
  refine wpAny_bind (wpAny_isInstance (T := "list_reverseiterator") (b := true) hI.typeIs (by rw [isSubtype_type]; kernel_rfl) ?_)
  exact wpAny_pure h
theorem extendRev {R : Result → Shared → Prop} (hh : A.handled = none) (hI : s.heap.IsRevIter I l ((items.size : Int) - 1)) (hl : s.heap.IsList l items) (hne : l ≠ I) (S : Addr) (hSr : S ≠ I) (hSd : S ≠ l) (res : Value) (c₀ : Nat) (hS : s.heap.get? S = some { cls := .type "list", data := .seq #[] c₀ })
    (hR : ∀ h' tk acc' c', (∀ b o, b ≠ S → b ≠ I → s.heap.get? b = some o → h'.get? b = some o) → h'.get? S = some { cls := .type "list", dict := none, data := .seq acc' c', slots := #[] } → ItemsOf (fun i v => items[items.size - 1 - i]? = some v) acc' items.size → R (.ok (.ret res)) { s with heap := h', toks := tk }) (hn : items.size ≤ sizeLine) :
    wpAny (model prog w) A.in1 (Builtin.List.listExtendWith (.ref S) (.ref I) res)
      (fun fin s' => match fin with | .done f => R (.ok f) s' | .again c' => c'.quiet = true ∧ codeAny (model prog w) A c' R s') (fun e s' => R (.error e) s') s := by
  have hSf : S ∉ [I, l] := by simp only [List.mem_cons, List.not_mem_nil, or_false, not_or]; exact ⟨hSr, hSd⟩
  have W := Walks.listRev (prog := prog) (w := w) (A := A.in1) hh I l hne items
  have key : codeAny (model prog w) A (.builtin "list.extend.loop" ⟨[.ref S, .ref I, res], []⟩) R s := by
    refine codeAny_extend_loopS W.toS hn S hSf res items.size 0 s #[] c₀ rfl (Nat.zero_le _) ⟨Nat.zero_le _, by simpa using hI, hl⟩ hS (ItemsOf.nil _) fun s' acc' c' hm hS' hacc => ?_
    rw [Moved.eq_with hm]
    refine hR s'.heap s'.toks acc' c' (fun b o hb hbI e => hm.heap b o (fun hmem => ?_) e) hS' hacc
    rcases List.mem_cons.mp hmem with e' | hmem
    · exact hb e'
    · exact hbI (List.mem_singleton.mp hmem)
  unfold Builtin.List.listExtendWith
  refine wpAny_bind (wpAny_typeOf (T := "list_reverseiterator") hI.typeIs ?_)
  have h1 : Builtin.List.listSameRef (.ref S) (.ref I) = false := by simp [Builtin.List.listSameRef, hSr]
  have h2 : (Value.type "list_reverseiterator" == Value.type "list") = false := by decide
  have h3 : (Value.type "list_reverseiterator" == Value.type "tuple") = false := by decide
  simp only [h1, h2, h3, Bool.or_false, Bool.false_eq_true, if_false]
  refine wpAny_bind (wpAny_pyIter_revIter hI ?_)
  refine wpAny_bind (wpAny_holding (hintRev hI ?_))
  exact wpAny_pure ⟨plainId_quiet PySem.F.plain_extend_loop _, key⟩
theorem initRev {R : Result → Shared → Prop} (hh : A.handled = none) (hI : s.heap.IsRevIter I l ((items.size : Int) - 1)) (hl : s.heap.IsList l items) (hne : l ≠ I) (S : Addr) (hSr : S ≠ I) (hSd : S ≠ l) (hS : s.heap.get? S = some { cls := .type "list", data := .seq #[] })
    (hR : ∀ h' tk acc' c', (∀ b o, b ≠ S → b ≠ I → s.heap.get? b = some o → h'.get? b = some o) → h'.get? S = some { cls := .type "list", dict := none, data := .seq acc' c', slots := #[] } → ItemsOf (fun i v => items[items.size - 1 - i]? = some v) acc' items.size → R (.ok (.ret .none)) { s with heap := h', toks := tk }) (hn : items.size ≤ sizeLine) :
    wpAny (model prog w) A.in1 (Builtin.«list.__init__» ⟨[.ref S, .ref I], []⟩)
      (fun fin s' => match fin with | .done f => R (.ok f) s' | .again c' => c'.quiet = true ∧ codeAny (model prog w) A c' R s') (fun e s' => R (.error e) s') s := by
  show wpAny _ _ (do let old ← Builtin.List.listItems (.ref S); Builtin.List.listUpdate (.ref S) (fun _ => #[]); letGo old.toList.reverse; Builtin.List.listExtendWith (.ref S) (.ref I) .none) _ _ s
  refine wpAny_bind ?_
  unfold Builtin.List.listItems
  refine wpAny_bind (wpAny_seqItems hS rfl (wpAny_pure ?_))
  show wpAny _ _ (updateSeq S (fun _ => #[]) >>= fun _ => letGo (#[] : Array Value).toList.reverse >>= fun _ => Builtin.List.listExtendWith (.ref S) (.ref I) .none) _ _ s
  refine wpAny_bind (wpAny_updateSeq hS rfl ?_)
  have hS₂ := Heap.get?_update_self (Obj.mapSeq (fun _ => (#[] : Array Value))) hS rfl
  have oth : ∀ b o, b ≠ S → s.heap.get? b = some o → (s.heap.update S (Obj.mapSeq (fun _ => (#[] : Array Value)))).get? b = some o :=
    fun b o hb e => (Heap.get?_update_other _ _ (Ne.symm hb)).trans e
  refine wpAny_bind (wpAny_letGo ?_)
  refine extendRev hh (hI.at fun o e => oth _ _ (Ne.symm hSr) e) (hl.at fun o e => oth _ _ (Ne.symm hSd) e) hne S hSr hSd .none _ hS₂ (fun h' tk acc' c' hk hS' hacc => ?_) hn
  exact hR h' tk acc' c' (fun b o hb hbI e => hk b o hb hbI (oth b o hb e)) hS' hacc
theorem callListRev {Q : Value → Shared → Prop} (hh : A.handled = none) (hI : s.heap.IsRevIter I l ((items.size : Int) - 1)) (hl : s.heap.IsList l items) (hn : items.size ≤ sizeLine)
    (hQ : ∀ h' tk acc' c', (∀ b o, b ≠ I → s.heap.get? b = some o → h'.get? b = some o) → h'.get? s.heap.objs.size = some { cls := .type "list", dict := none, data := .seq acc' c', slots := #[] } → ItemsOf (fun i v => items[items.size - 1 - i]? = some v) acc' items.size → Q (.ref s.heap.objs.size) { s with heap := h', toks := tk }) :
    wpAny (model prog w) A (call (.type "list") [.ref I]) Q E s := by
  have hIlt : I < s.heap.objs.size := let ⟨_, ho, _⟩ := hI; Heap.lt_size ho
  have hllt : l < s.heap.objs.size := let ⟨_, ho, _⟩ := hl; Heap.lt_size ho
  have hne : l ≠ I := fun q => by
    obtain ⟨o, ho, hc, _⟩ := hl
    obtain ⟨o', ho', hc', _⟩ := hI
    rw [q, ho'] at ho; cases ho; rw [hc] at hc'; exact absurd hc' (by decide)
  refine callType_codes (Q₁ := fun obj s₁ => obj = .ref s.heap.objs.size ∧ s₁ = { s with heap := s.heap.push { cls := .type "list", data := .seq #[] } }) PySem.F.called_list (PySem.F.typeCall_list_1 _) PySem.F.entry_list_init
    (code_list_new _ ⟨rfl, rfl⟩) fun obj s₁ h₁ => ?_
  obtain ⟨rfl, rfl⟩ := h₁
  have hS : (s.heap.push { cls := .type "list", data := .seq #[] }).get? s.heap.objs.size = some { cls := .type "list", data := .seq #[] } := Heap.get?_push_size _ rfl
  refine ⟨⟨_, hS, rfl⟩, PySem.F.args_list_init_2 _ _, initRev (A := A.in1) hh (hI.at fun o e => Heap.get?_push_of_some _ e) (hl.at fun o e => Heap.get?_push_of_some _ e) hne _ (Nat.ne_of_gt hIlt) (Nat.ne_of_gt hllt) hS (fun h' tk acc' c' hk hS' hacc => ?_) hn⟩
  exact ⟨rfl, hQ h' tk acc' c' (fun b o hbI e => hk b o (Nat.ne_of_lt (Heap.lt_size e)) hbI (Heap.get?_push_of_some _ e)) hS' hacc⟩
theorem itemsRev {vs : List Value} {acc : Array Value} (h : ItemsOf (fun i v => vs.toArray[vs.toArray.size - 1 - i]? = some v) acc vs.toArray.size) : acc.toList = vs.reverse := by
  refine List.ext_getElem? fun j => ?_
  have hsz : acc.size = vs.length := by simpa using h.1
  by_cases hj : j < acc.size
  · have e := h.2 j acc[j] (Array.getElem?_eq_getElem hj)
    rw [Array.getElem?_toList, Array.getElem?_eq_getElem hj, List.getElem?_reverse (by omega)]
    simpa using e.symm
  · rw [Array.getElem?_toList, Array.getElem?_eq_none (by omega), List.getElem?_eq_none (by simp; omega)]
/-- list(reversed(l)) where the iterator stands first in the ledger -/
theorem listRevN {g : Heap} {L : Addr} {m : Str → Option Value} {vs : List Value} {z : Int} {news : List (Addr × Obj)} {Q : Value → Shared → Prop} (hh : A.handled = none) (F : Fr g L s.heap m) (N : News g L s.heap ((I, revObj l z) :: news)) (ne : AllNe I news) (hz : z = (vs.length : Int) - 1) (hl : s.heap.IsList l vs.toArray) (hn : vs.length ≤ sizeLine)
    (hQ : ∀ D c h' tk, Fr g L h' m → News g L h' ((D, W.listOf vs.reverse.toArray c) :: news) → (∀ q ∈ news, q.1 < D) → Q (.ref D) { s with heap := h', toks := tk }) :
    wpAny (model prog w) A (call (.type "list") [.ref I]) Q E s := by
  have gI := N.get (.head _)
  have hsz : vs.toArray.size = vs.length := by simp
  refine callListRev hh (items := vs.toArray) ⟨_, gI, rfl, by rw [hz, hsz]; rfl⟩ hl (by rw [hsz]; exact hn) fun h' tk acc' c' hk hD hacc => ?_
  have hD' : h'.get? s.heap.objs.size = some (W.listOf vs.reverse.toArray c') := by
    rw [hD, ← itemsRev hacc]
  have hI0 := N.fresh (.head _)
  have F' := frKeepB F (fun b o hb e => hk b o hb e) hI0 (Ne.symm (N _ (.head _)).2.1)
  have hnone : s.heap.get? s.heap.objs.size = none := by
    cases q : s.heap.get? s.heap.objs.size with
    | none => rfl
    | some o => exact absurd (Heap.lt_size q) (Nat.lt_irrefl _)
  refine hQ _ c' h' tk F' (fun p hp => ?_) (fun q hq => Heap.lt_size (N q (.tail _ hq)).1)
  rcases List.mem_cons.mp hp with rfl | hp
  · refine ⟨hD', fun e => ?_, ?_⟩
    · obtain ⟨oL, _, _, hL, _⟩ := F.ns
      rw [show s.heap.objs.size = L from e, hL] at hnone; cases hnone
    · cases q : g.get? s.heap.objs.size with
      | none => rfl
      | some o' => rw [F.keep _ _ q] at hnone; cases hnone
  · exact ⟨hk _ _ (allNe_mem ne p hp) (N p (.tail _ hp)).1, (N p (.tail _ hp)).2⟩
end
end Mine
end
section
open PySem PySem.W PyProof.Rows
set_option maxRecDepth 100000
namespace Mine
section
variable {prog : Program} {w : World} {A : Around} {E E' : Value → Shared → Prop} {s : Shared} {env : Env} {h₀ : Heap} {Q : Flow → Shared → Prop}
/-- for x in range(n), by what holds of the names and of the heap; the iterator is the object that comes next -/
theorem forRange {x : Str} {px : Pos} {body : List Stmt} {r : Addr} {t u u' : Tok} {n : Nat} {N : Int} {m : Str → Option Value} (hh : A.handled = none) (F : Fr h₀ env.locals s.heap m) (hr : IsRange s.heap r 0 N 1 t u u') (hN : N = (n : Int)) (hn : n ≤ sizeLine) (hx : env.kindOf x = some .local)
    (hp : (env.scope.kind == .class || (env.scope.kind == .module && env.locals != env.globals)) = false)
    (J : Nat → (Str → Option Value) → Heap → Prop) (hJ : ∀ I i m h h', s.heap.objs.size = I → J i m h → (∀ b o, b ≠ I → b ≠ env.locals → h.get? b = some o → h'.get? b = some o) → J i m h')
    (h0 : ∀ h', Keep s.heap h' → J 0 m h')
    (turn : ∀ I i t m₁ h tk oI, s.heap.objs.size = I → i < n → J i m₁ h → Fr h₀ env.locals h (fun y => if y = x then some (.int (i : Int) t) else m₁ y) → h.get? I = some oI → h₀.get? I = none → @Ne Nat I env.locals →
      wpAny (model prog w) A (execs body env) (fun f s₃ => match f with
          | .next | .cont => Hold (∃ h' tk' m', s₃ = { s with heap := h', toks := tk' } ∧ Fr h₀ env.locals h' m' ∧ h'.get? I = some oI ∧ J (i + 1) m' h')
          | .brk => Q .next s₃
          | .ret v => Q (.ret v) s₃) (notedBy (model prog w) A env fun e s' => cameBackBy (model prog w) A env E e s') { s with heap := h, toks := tk })
    (done : ∀ m' h tk, J n m' h → Fr h₀ env.locals h m' → Q .next { s with heap := h, toks := tk }) :
    wpAny (model prog w) A (pyIter (.ref r)) (fun it s₂ => codeAny (model prog w) A (.forLoop (.Name x px) it body [] env) (fun r s' => match r with | .ok f => Q f s' | .error e => cameBackBy (model prog w) A env E e s') s₂) E' s := by
  subst hN
  have hsl : n ≤ 16777216 := by rw [sizeLine_eq] at hn; exact hn
  have hs : Builtin.Range.rangeSize 0 n 1 = n := by rw [rangeSize_one]; split <;> omega
  refine wpAny_pyIter_range hr ?_ ?_
  · unfold Builtin.Range.small
    rw [hs]
    simp [Builtin.Range.rangeFitsLong]
    omega
  rw [hs]
  have hI0 : h₀.get? s.heap.objs.size = none := by
    cases q : h₀.get? s.heap.objs.size with
    | none => rfl
    | some o => exact absurd (Heap.lt_size (F.keep _ _ q)) (Nat.lt_irrefl _)
  have hIL : @Ne Nat s.heap.objs.size env.locals := by
    obtain ⟨oL, _, _, hL, _⟩ := F.ns
    exact Nat.ne_of_gt (Heap.lt_size hL)
  refine forW (s := { s with heap := s.heap.push { cls := .type "range_iterator", data := .fields #[rawInt 0, rawInt n, rawInt 1] } }) (Walks.range hh s.heap.objs.size 0 1 n) hx hp ?_ hI0 J (fun i m h h' hj k => hJ _ i m h h' rfl hj k) ?_ (F.push _) (h0 _ fun b o e => Heap.get?_push_of_some _ e) ?_ ?_ ?_
  · intro q; exact hIL (List.mem_singleton.mp q).symm
  · show (s.heap.push _).get? _ = _
    simp only [Int.natCast_zero, Int.zero_mul, Int.add_zero, Int.sub_zero]
    exact Heap.get?_push_size _ rfl
  · rintro i v m₁ h tk oI hi ⟨tt, e⟩ hj F' hoI
    have e' : v = .int (i : Int) tt := by rw [e]; simp
    subst e'
    refine wpAny_mono (turn _ i tt m₁ h tk oI rfl hi hj F' hoI hI0 hIL) (fun f s₃ h₃ => ?_) fun _ _ e => e
    cases f with
    | next =>
      obtain ⟨h', tk', m', rfl, F', kI, hj'⟩ := h₃
      exact ⟨h', tk', m', rfl, F', (fun b hb o e => by rw [List.mem_singleton.mp hb] at e ⊢; rw [hoI] at e; cases e; exact kI), hj'⟩
    | cont =>
      obtain ⟨h', tk', m', rfl, F', kI, hj'⟩ := h₃
      exact ⟨h', tk', m', rfl, F', (fun b hb o e => by rw [List.mem_singleton.mp hb] at e ⊢; rw [hoI] at e; cases e; exact kI), hj'⟩
    | brk => exact h₃
    | ret v => exact h₃
  · intro i h e
    exact ⟨_, e⟩
  · intro m' h tk hj F'
    exact done m' h tk hj F'
end
end Mine
end
namespace Mine
theorem turn5 {M : PySem.Model} {A : PySem.Around} {E : PySem.Value → PySem.Shared → Prop} {s : PySem.Shared} {env : PySem.Env} {Q : PySem.Flow → PySem.Shared → Prop} (h : Q .next s) : PySem.wpAny M A (PySem.execs [] env) Q E s := by
  w_top off
  walk1
  exact h
end Mine
section
open PySem PySem.W PyProof.Rows
set_option maxRecDepth 100000
set_option maxHeartbeats 8000000
namespace Mine
open Builtin.Int (intBits)
theorem newsUpd {g h h' : Heap} {L l : Addr} {o o' : Obj} {news news' : List (Addr × Obj)} (N : News g L h news) (kb : KeepB l h h') (ho : h'.get? l = some o') (U : Upd l o o' news news') : News g L h' news' := by
  obtain ⟨pre, post, rfl, rfl, h1, h2⟩ := U.split
  intro p hp
  rcases List.mem_append.mp hp with hp | hp
  · have n := N p (List.mem_append_left _ hp)
    exact ⟨kb _ _ (h1 p hp) n.1, n.2⟩
  · rcases List.mem_cons.mp hp with rfl | hp
    · exact ⟨ho, (N (l, o) (List.mem_append_right _ (.head _))).2⟩
    · have n := N p (List.mem_append_right _ (.tail _ hp))
      exact ⟨kb _ _ (h2 p hp) n.1, n.2⟩
theorem seg_whole {ns D : List Int} {a b : Nat} (ha : a = 0) (hb : b = ns.length) : seg ns a b D = D := by subst ha hb; simp [seg]
/-- a code table that the nested def has filled -/
def Full (P : Addr) (line col : Int) (qual : Str) (h : Heap) : Prop := ∃ c', h.get? P = some (tabObj #[rawInt line, rawInt col, .ref c']) ∧ h.CodeRec (.ref c') qual ∧ c' ≠ P
/-- the same, just filled: its code object is new -/
def FullN (P : Addr) (line col : Int) (qual : Str) (h h' : Heap) : Prop := ∃ c' oc vs t, h'.get? P = some (tabObj #[rawInt line, rawInt col, .ref c']) ∧ h'.get? c' = some oc ∧ oc.data = .fields vs ∧ vs[1]? = some (.str qual t) ∧ h.get? c' = none
theorem Full.keeps {P : Addr} {line col : Int} {qual : Str} {h h' : Heap} (x : Full P line col qual h) (k : Keep h h') : Full P line col qual h' := by
  obtain ⟨c', e, r, n⟩ := x
  exact ⟨c', k _ _ e, r.keeps k, n⟩
theorem codeTab {h : Heap} {l c : Addr} {q : Str} (x : h.CodeRec (.ref c) q) (hc : c ≠ l) : (hideAll h [l]).CodeRec (.ref c) q := by
  obtain ⟨c₂, oc, vs, t, e2, hoc, hd, hv⟩ := x
  cases e2
  exact ⟨c, oc, vs, t, rfl, hideOne hoc hc, hd, hv⟩
theorem freshHide {g h : Heap} {l b : Addr} {o : Obj} (hg : g = hideAll h (List.map (·.1) [(l, o)])) (hne : b ≠ l) (hn : g.get? b = none) : h.get? b = none := by
  cases q : h.get? b with
  | none => rfl
  | some o' => rw [hg, show List.map (fun x : Addr × Obj => x.1) [(l, o)] = [l] from rfl, hideOne q hne] at hn; cases hn
theorem keepOf {h h' : Heap} {l : Addr} {o : Obj} (e : h.get? l = some o) (e' : h'.get? l = some o) (k : KeepB l h h') : Keep h h' := fun b ob eb => by
  by_cases q : b = l
  · subst q; rw [e] at eb; cases eb; exact e'
  · exact k b ob q eb
theorem bits_count {a n : Int} {N : Nat} (hn : 0 < n) (hN : 1 ≤ N) (ha : 2 ^ (n.toNat * (N - 1)) ≤ a) (ha' : a < 2 ^ (n.toNat * N)) : ((intBits a : Int) + n - 1) / n = N := by
  have h0 : 0 ≤ a := by have := p2pos (n.toNat * (N - 1)); omega
  have h1 := bits_gt ha
  have h2 := bits_le h0 ha'
  have e1 : ((n.toNat * (N - 1) : Nat) : Int) = n * N - n := by
    rw [Int.natCast_mul, Int.toNat_of_nonneg (by omega), Int.natCast_sub hN, Int.mul_sub, Int.natCast_one, Int.mul_one]
  have e2 : ((n.toNat * N : Nat) : Int) = n * N := by rw [Int.natCast_mul, Int.toNat_of_nonneg (by omega)]
  refine (kbt_unique (r := (intBits a : Int) + n - 1 - n * N) hn (by omega) (by omega) (by omega)).1
theorem log2_small {n : Int} (hn : 0 < n) (hn' : n < 8000) : n.natAbs.log2 < 9000 := log2_of_bits hn (Int.lt_of_lt_of_le (b := 2 ^ 13) (by omega) (p2mono (by decide)))
local macro_rules | `(tactic| walk_at "binaryOp FloorDiv int int") => `(tactic| (refine fdivTo (by assumption) (by assumption) (by assumption) ?_; try dsimp only))
section
variable {prog : Program} {w : World} {dp un : Nat} {fr : Option (List Env)} {gd : Option (List Code)} {s : Shared} {p : Program} {loose : List Str} {mean : ExcName → Option Value} {mg mb : Str → Option Value} {Q : Value → Shared → Prop} {E : Value → Shared → Prop}
  {h₀ : Heap}
theorem c_innerI {o1 o2 o4 : _} {n0 q0 iname iqual ib : Str} {ps0 iparams : Arguments} {st0 : Stmt} {ibody rest : List Stmt} {e1 : List Expr} {e2 : Option Expr} {e3 : List TypeParam} {iscope sc0 : Scope} {e4 : Option Scope} {ipos : Pos} {v1 v2 v3 v4 v5 v6 doc pm ctv : Value} {a1 : Option Addr}
   {g : Heap} {L f l ca ci cn c' : Addr} {m : Str → Option Value} {news : List (Addr × Obj)} {cl : List (Str × Addr)} {n : Int} {tn : Tok} {oa oi on : Obj} {ep : Nat} {x a b : Int} {tx ta tb : Tok} {items : List Value} {ns : List Int} {k : Nat}
   (hK : (Mine.K w.params).lookup 35 = some ⟨o1, o2, .func (fnX n0 q0 ps0 (st0 :: .FunctionDef iname iparams ibody e1 e2 e3 iscope e4 ib ipos :: rest) sc0 [] v1 v2 v3 v4 a1 v5 v6), o4⟩)
   (F : Fr g L s.heap m) (N : News g L s.heap news) (X : (Mine.K w.params).In g) (T : Top p loose mean mg mb g)
   (mf : (f, fnMade iname iqual iparams ibody iscope cl doc pm c' ctv) ∈ news) (hcl1 : cl.lookup (Str.ofString "a_digits") = some ca) (hcl2 : cl.lookup (Str.ofString "inner") = some ci) (hcl3 : cl.lookup (Str.ofString "n") = some cn)
   (ma : (ca, oa) ∈ news) (hda : oa.data = .cell (some (.ref l))) (mi : (ci, oi) ∈ news) (hdi : oi.data = .cell (some (.ref f))) (mn : (cn, on) ∈ news) (hdn : on.data = .cell (some (.int n tn)))
   (ml : (l, W.listOf items.toArray ep) ∈ news) (hI : IntsAre items ns) (hcd : s.heap.CodeRec (.ref c') iqual)
   (hn : 0 < n) (hn' : n < 8000) (hroom : dp + k < recursionLimit) (hk : b - a = k) (ha : 0 ≤ a) (hab : a < b) (hb : b ≤ ns.length) (hlen : ns.length ≤ 100) (hx : 0 ≤ x) (hx' : x < 2 ^ (n.toNat * k))
   (ret : ∀ vs h' tk', KeepB l s.heap h' → Fr g L h' m → h'.get? l = some (W.listOf vs.toArray ep) → IntsAre vs (seg ns a.toNat b.toNat (digs (2 ^ n.toNat) x k)) → Q .none { s with heap := h', toks := tk' }) :
   wpAny (model prog w) (AR dp un fr gd) (call (.ref f) [.int x tx, .int a ta, .int b tb]) Q E s := by
  refine c_innerI0 (p := p) (loose := loose) (mean := mean) (mg := mg) (mb := mb) hK hcl1 hcl2 hcl3 (rfl : (fnMade iname iqual iparams ibody iscope cl doc pm c' ctv).data = _) hda hdi hdn hn hn' k _ _ _ _ _ _ _ g _ a b _ _ _ items ns X T F.keep (N.fresh ml) (N.get ml) hI (N.get mf) hcd (N.get ma) (N.get mi) (N.get mn) hroom hk ha hab hb hlen hx hx' ?_
  intro vs h' tk' kb hI' hl'
  exact ret vs h' tk' kb (frKeepB F kb (N.fresh ml) (Ne.symm (N _ ml).2.1)) hl' hI'
theorem i2f {n1 N : Nat} (e : (0 : Int) ≤ (N : Int) → (n1 : Int) = ((0 + 1 : Nat) : Int) * (N : Int)) : (n1 : Int) = N := by
  rw [e (Int.natCast_nonneg _)]
  exact Int.one_mul _
theorem i2len {n1 N l : Nat} (e : (n1 : Int) = N) (h : N ≤ 100) (q : l = n1) : l ≤ 100 := by
  rw [q]
  exact Int.ofNat_le.mp (by rw [e]; exact Int.ofNat_le.mpr h)
theorem c_i2d_first {a n : Int} {ta tn : Tok} {N : Nat} (X : (Mine.K w.params).In h₀) (T : Top p loose mean mg mb h₀) (k0 : Keep h₀ s.heap) (C : CodeHd h₀ 34 30) (hP : s.heap.get? 30 = some (tabObj #[])) (hP0 : h₀.get? 30 = none) (hroom : dp + 1 + N < recursionLimit)
   (hn : 0 < n) (hn' : n < 8000) (hN : 1 ≤ N) (hN' : N ≤ 100) (ha : 2 ^ (n.toNat * (N - 1)) ≤ a) (ha' : a < 2 ^ (n.toNat * N))
   (ret : ∀ l vs ep h' tk', KeepB 30 s.heap h' → FullN 30 32 4 "_int2digits.<locals>.inner" s.heap h' → s.heap.get? l = none → h'.get? l = some (W.listOf vs.toArray ep) → IntsAre vs (digs (2 ^ n.toNat) a N) → Q (.ref l) { s with heap := h', toks := tk' }) :
   wpAny (model prog w) (AR dp un fr gd) (call (.ref 35) [.int a ta, .int n tn]) Q E s := by
  w_top off
  refine enterC (binds := [("a", .int a ta), ("n", .int n tn)]) (hid := [(30, tabObj #[])]) X T k0 (by intro p hp; rw [List.mem_singleton.mp hp]; exact hP) (by intro p hp; rw [List.mem_singleton.mp hp]; exact hP0) (by k_is) (by k_is) (by show dp < _; omega) (BindsTo.of_eq rfl) rfl (by decide +kernel) ?_ rfl rfl rfl
  intro g L' h₁ tk cells hg F NN Y X' T' k1 l1
  have C' := C.keeps k1
  k_lt l1
  k_cells Y
  simp only [List.cons_append, List.nil_append] at NN
  have hz1 := bits_count hn hN ha ha'
  have hz2 := log2_small hn hn'
  have ha0 : 0 < a := by have := p2pos (n.toNat * (N - 1)); omega
  clear C
  k_steps
  · rename IntsAre _ _ => i1
    rename (_ : Int) < 0 → _ => e2
    rename (0 : Int) ≤ _ → _ => e3
    rename List.length _ = _ => e1
    refine c_innerI (by k_is) (by k_asm) (by k_asm) X' T' (by k_mem) (by rfl) (by rfl) (by rfl) (by k_mem) (by k_asm) (by k_mem) (by k_asm) (by k_mem) (by k_asm) (by k_mem) i1 (codeRec_news (by k_asm) (by k_mem) (by assumption) (by assumption)) hn hn' (k := N) hroom (by rw [Int.sub_zero]; exact i2f e3) (Int.le_refl _) (by rw [i2f e3]; exact Int.ofNat_lt.mpr hN) (by rw [e1]; exact Int.le_refl _) (i2len (i2f e3) hN' e1) (Int.le_of_lt ha0) ha' ?_
    intro vs h' tk' kb F2 hl2 hI2
    rename News _ _ _ _ => N'
    have N2 := newsUpd N' kb hl2 (by k_upd)
    clear N'
    k_steps
    rw [seg_whole] at hI2
    case ha => rfl
    case hb => rw [e1]; exact Int.toNat_natCast _
    refine ret _ vs _ h' _ (fun b o hne e => F2.keep _ _ (hg ▸ hideOne e hne)) ⟨_, _, _, _, N2.get (show (30, tabObj #[rawInt 32, rawInt 4, .ref _]) ∈ _ from by k_mem), N2.get (by k_mem), (by assumption), (by assumption), freshHide hg (by k_ne) (N2.fresh (by k_mem))⟩ ?_ hl2 hI2
    refine freshHide hg ?_ (N2.fresh (by k_mem))
    k_ne
  · exfalso; omega
theorem c_i2d_again {a n : Int} {ta tn : Tok} {N : Nat} {c' : Addr} (X : (Mine.K w.params).In h₀) (T : Top p loose mean mg mb h₀) (k0 : Keep h₀ s.heap) (C : CodeHd h₀ 34 30) (hP : s.heap.get? 30 = some (tabObj #[rawInt 32, rawInt 4, .ref c'])) (hP0 : h₀.get? 30 = none) (hcode : s.heap.CodeRec (.ref c') (Str.ofString "_int2digits.<locals>.inner")) (hc30 : c' ≠ 30) (hroom : dp + 1 + N < recursionLimit)
   (hn : 0 < n) (hn' : n < 8000) (hN : 1 ≤ N) (hN' : N ≤ 100) (ha : 2 ^ (n.toNat * (N - 1)) ≤ a) (ha' : a < 2 ^ (n.toNat * N))
   (ret : ∀ l vs ep h' tk', Keep s.heap h' → s.heap.get? l = none → h'.get? l = some (W.listOf vs.toArray ep) → IntsAre vs (digs (2 ^ n.toNat) a N) → Q (.ref l) { s with heap := h', toks := tk' }) :
   wpAny (model prog w) (AR dp un fr gd) (call (.ref 35) [.int a ta, .int n tn]) Q E s := by
  refine enterC (binds := [("a", .int a ta), ("n", .int n tn)]) (hid := [(30, tabObj #[rawInt 32, rawInt 4, .ref c'])]) X T k0 (by intro p hp; rw [List.mem_singleton.mp hp]; exact hP) (by intro p hp; rw [List.mem_singleton.mp hp]; exact hP0) (by k_is) (by k_is) (by show dp < _; omega) (BindsTo.of_eq rfl) rfl (by decide +kernel) ?_ rfl rfl rfl
  intro g L' h₁ tk cells hg F NN Y X' T' k1 l1
  have C' := C.keeps k1
  k_lt l1
  k_cells Y
  simp only [List.cons_append, List.nil_append] at NN
  have hz1 := bits_count hn hN ha ha'
  have hz2 := log2_small hn hn'
  have ha0 : 0 < a := by have := p2pos (n.toNat * (N - 1)); omega
  have codeG : g.CodeRec (.ref c') (Str.ofString "_int2digits.<locals>.inner") := hg ▸ codeTab hcode hc30
  clear C
  k_steps
  · rename IntsAre _ _ => i1
    rename (_ : Int) < 0 → _ => e2
    rename (0 : Int) ≤ _ → _ => e3
    rename List.length _ = _ => e1
    refine c_innerI (by k_is) (by k_asm) (by k_asm) X' T' (by k_mem) (by rfl) (by rfl) (by rfl) (by k_mem) (by k_asm) (by k_mem) (by k_asm) (by k_mem) (by k_asm) (by k_mem) i1 (codeG.keeps (Fr.keep (by k_asm))) hn hn' (k := N) hroom (by rw [Int.sub_zero]; exact i2f e3) (Int.le_refl _) (by rw [i2f e3]; exact Int.ofNat_lt.mpr hN) (by rw [e1]; exact Int.le_refl _) (i2len (i2f e3) hN' e1) (Int.le_of_lt ha0) ha' ?_
    intro vs h' tk' kb F2 hl2 hI2
    rename News _ _ _ _ => N'
    have N2 := newsUpd N' kb hl2 (by k_upd)
    clear N'
    k_steps
    rw [seg_whole] at hI2
    case ha => rfl
    case hb => rw [e1]; exact Int.toNat_natCast _
    refine ret _ vs _ h' _ (keepOf hP (N2.get (by k_mem)) fun b o hne e => F2.keep _ _ (hg ▸ hideOne e hne)) ?_ hl2 hI2
    refine freshHide hg ?_ (N2.fresh (by k_mem))
    k_ne
  · exfalso; omega
end
end Mine
end
namespace Mine
theorem turn6 {M : PySem.Model} {A : PySem.Around} {E : PySem.Value → PySem.Shared → Prop} {s : PySem.Shared} {env : PySem.Env} {Q : PySem.Flow → PySem.Shared → Prop} (h : Q .next s) : PySem.wpAny M A (PySem.execs [] env) Q E s := by
  w_top off
  walk1
  exact h
end Mine
section
open PySem PySem.W PyProof.Rows
set_option maxRecDepth 100000
set_option maxHeartbeats 8000000
namespace Mine
open Builtin.Int (intBits)
section
variable {prog : Program} {w : World} {dp un : Nat} {fr : Option (List Env)} {gd : Option (List Code)} {s : Shared} {p : Program} {loose : List Str} {mean : ExcName → Option Value} {mg mb : Str → Option Value} {Q : Value → Shared → Prop} {E : Value → Shared → Prop}
  {h₀ : Heap}
theorem c_innerD {o1 o2 o4 : _} {n0 q0 iname iqual ib : Str} {ps0 iparams : Arguments} {ibody rest : List Stmt} {e1 : List Expr} {e2 : Option Expr} {e3 : List TypeParam} {iscope sc0 : Scope} {e4 : Option Scope} {ipos : Pos} {v1 v2 v3 v4 v5 v6 doc pm ctv : Value} {a1 : Option Addr}
   {g : Heap} {L f l cd ci cn c' : Addr} {m : Str → Option Value} {news : List (Addr × Obj)} {cl : List (Str × Addr)} {n : Int} {tn : Tok} {od oi on : Obj} {a b : Int} {ta tb : Tok} {items : List Value} {ns : List Int} {k : Nat}
   (hK : (Mine.K w.params).lookup 42 = some ⟨o1, o2, .func (fnX n0 q0 ps0 (.FunctionDef iname iparams ibody e1 e2 e3 iscope e4 ib ipos :: rest) sc0 [] v1 v2 v3 v4 a1 v5 v6), o4⟩)
   (F : Fr g L s.heap m) (N : News g L s.heap news) (X : (Mine.K w.params).In g) (T : Top p loose mean mg mb g)
   (mf : (f, fnMade iname iqual iparams ibody iscope cl doc pm c' ctv) ∈ news) (hcl1 : cl.lookup (Str.ofString "digits") = some cd) (hcl2 : cl.lookup (Str.ofString "inner") = some ci) (hcl3 : cl.lookup (Str.ofString "n") = some cn)
   (md : (cd, od) ∈ news) (hdd : od.data = .cell (some (.ref l))) (mi : (ci, oi) ∈ news) (hdi : oi.data = .cell (some (.ref f))) (mn : (cn, on) ∈ news) (hdn : on.data = .cell (some (.int n tn)))
   (hl : g.IsList l items.toArray) (hI : IntsAre items ns) (hcd : s.heap.CodeRec (.ref c') iqual)
   (hn : 0 < n) (hn' : n < 8000) (hlen : ns.length ≤ 100) (hd0 : ∀ d ∈ ns, 0 ≤ d) (hd1 : ∀ d ∈ ns, d < 2 ^ n.toNat) (hroom : dp + k < recursionLimit) (hk : b - a = k) (ha : 0 ≤ a) (hab : a < b) (hb : b ≤ ns.length)
   (ret : ∀ t h' tk', Fr g L h' m → News g L h' news → Q (.int (dval (2 ^ n.toNat) (part ns a.toNat b.toNat)) t) { s with heap := h', toks := tk' }) :
   wpAny (model prog w) (AR dp un fr gd) (call (.ref f) [.int a ta, .int b tb]) Q E s := by
  refine c_innerD0 (p := p) (loose := loose) (mean := mean) (mg := mg) (mb := mb) hK hcl1 hcl2 hcl3 (rfl : (fnMade iname iqual iparams ibody iscope cl doc pm c' ctv).data = _) hdd hdi hdn hn hn' hI hlen hd0 hd1 k _ _ _ _ _ _ _ g a b _ _ X T F.keep (hl.at fun o e => F.keep _ _ e) (N.get mf) hcd (N.get md) (N.get mi) (N.get mn) hroom hk ha hab hb ?_
  intro t h' tk' kb
  exact ret t h' tk' (frKeep F kb) (newsKeep N kb)
theorem c_d2i_first {n : Int} {tn : Tok} {l : Addr} {items : List Value} {ns : List Int} (X : (Mine.K w.params).In h₀) (T : Top p loose mean mg mb h₀) (k0 : Keep h₀ s.heap) (C : CodeHd h₀ 41 37) (hP : s.heap.get? 37 = some (tabObj #[])) (hP0 : h₀.get? 37 = none) (hroom : dp + 1 + ns.length < recursionLimit)
   (hl : s.heap.IsList l items.toArray) (hI : IntsAre items ns) (hn : 0 < n) (hn' : n < 8000) (hN : 1 ≤ ns.length) (hN' : ns.length ≤ 100) (hd0 : ∀ d ∈ ns, 0 ≤ d) (hd1 : ∀ d ∈ ns, d < 2 ^ n.toNat)
   (ret : ∀ t h' tk', KeepB 37 s.heap h' → FullN 37 47 4 "_digits2int.<locals>.inner" s.heap h' → Q (.int (dval (2 ^ n.toNat) ns) t) { s with heap := h', toks := tk' }) :
   wpAny (model prog w) (AR dp un fr gd) (call (.ref 42) [.ref l, .int n tn]) Q E s := by
  w_top off
  refine enterC (binds := [("digits", .ref l), ("n", .int n tn)]) (hid := [(37, tabObj #[])]) X T k0 (by intro p hp; rw [List.mem_singleton.mp hp]; exact hP) (by intro p hp; rw [List.mem_singleton.mp hp]; exact hP0) (by k_is) (by k_is) (by show dp < _; omega) (BindsTo.of_eq rfl) rfl (by decide +kernel) ?_ rfl rfl rfl
  intro g L' h₁ tk cells hg F NN Y X' T' k1 l1
  have C' := C.keeps k1
  have hl' : g.IsList l items.toArray := by
    obtain ⟨o, ho, hc, r⟩ := hl
    refine ⟨o, hg ▸ hideOne ho ?_, hc, r⟩
    intro q
    rw [q, hP] at ho; cases ho; cases hc
  have hlen := hI.length
  k_lt l1
  k_cells Y
  simp only [List.cons_append, List.nil_append] at NN
  clear C
  k_steps
  refine c_innerD (by k_is) (by k_asm) (by k_asm) X' T' (by k_mem) (by rfl) (by rfl) (by rfl) (by k_mem) (by k_asm) (by k_mem) (by k_asm) (by k_mem) (by k_asm) hl' hI (codeRec_news (by k_asm) (by k_mem) (by assumption) (by assumption)) hn hn' hN' hd0 hd1 (k := ns.length) (by show dp + 1 + ns.length < _; omega) (by omega) (by omega) (by omega) (by omega) ?_
  intro t h' tk' F2 N2
  have e : part ns (0 : Int).toNat ((ns.length : Nat) : Int).toNat = ns := part_all
  rw [e]
  exact ret _ h' _ (fun b o hne e => F2.keep _ _ (hg ▸ hideOne e hne)) ⟨_, _, _, _, N2.get (show (37, tabObj #[rawInt 47, rawInt 4, .ref _]) ∈ _ from by k_mem), N2.get (by k_mem), (by assumption), (by assumption), freshHide hg (by k_ne) (N2.fresh (by k_mem))⟩
theorem c_d2i_again {n : Int} {tn : Tok} {l : Addr} {items : List Value} {ns : List Int} {c' : Addr} (X : (Mine.K w.params).In h₀) (T : Top p loose mean mg mb h₀) (k0 : Keep h₀ s.heap) (C : CodeHd h₀ 41 37) (hP : s.heap.get? 37 = some (tabObj #[rawInt 47, rawInt 4, .ref c'])) (hP0 : h₀.get? 37 = none) (hcode : s.heap.CodeRec (.ref c') (Str.ofString "_digits2int.<locals>.inner")) (hc37 : c' ≠ 37) (hroom : dp + 1 + ns.length < recursionLimit)
   (hl : s.heap.IsList l items.toArray) (hI : IntsAre items ns) (hn : 0 < n) (hn' : n < 8000) (hN : 1 ≤ ns.length) (hN' : ns.length ≤ 100) (hd0 : ∀ d ∈ ns, 0 ≤ d) (hd1 : ∀ d ∈ ns, d < 2 ^ n.toNat)
   (ret : ∀ t h' tk', Keep s.heap h' → Q (.int (dval (2 ^ n.toNat) ns) t) { s with heap := h', toks := tk' }) :
   wpAny (model prog w) (AR dp un fr gd) (call (.ref 42) [.ref l, .int n tn]) Q E s := by
  refine enterC (binds := [("digits", .ref l), ("n", .int n tn)]) (hid := [(37, tabObj #[rawInt 47, rawInt 4, .ref c'])]) X T k0 (by intro p hp; rw [List.mem_singleton.mp hp]; exact hP) (by intro p hp; rw [List.mem_singleton.mp hp]; exact hP0) (by k_is) (by k_is) (by show dp < _; omega) (BindsTo.of_eq rfl) rfl (by decide +kernel) ?_ rfl rfl rfl
  intro g L' h₁ tk cells hg F NN Y X' T' k1 l1
  have C' := C.keeps k1
  have codeG : g.CodeRec (.ref c') (Str.ofString "_digits2int.<locals>.inner") := hg ▸ codeTab hcode hc37
  have hl' : g.IsList l items.toArray := by
    obtain ⟨o, ho, hc, r⟩ := hl
    refine ⟨o, hg ▸ hideOne ho ?_, hc, r⟩
    intro q
    rw [q, hP] at ho; cases ho; cases hc
  have hlen := hI.length
  k_lt l1
  k_cells Y
  simp only [List.cons_append, List.nil_append] at NN
  clear C
  k_steps
  refine c_innerD (by k_is) (by k_asm) (by k_asm) X' T' (by k_mem) (by rfl) (by rfl) (by rfl) (by k_mem) (by k_asm) (by k_mem) (by k_asm) (by k_mem) (by k_asm) hl' hI (codeG.keeps (Fr.keep (by k_asm))) hn hn' hN' hd0 hd1 (k := ns.length) (by show dp + 1 + ns.length < _; omega) (by omega) (by omega) (by omega) (by omega) ?_
  intro t h' tk' F2 N2
  have e : part ns (0 : Int).toNat ((ns.length : Nat) : Int).toNat = ns := part_all
  rw [e]
  exact ret _ h' _ (keepOf hP (N2.get (by k_mem)) fun b o hne e => F2.keep _ _ (hg ▸ hideOne e hne))
end
end Mine
end
namespace Mine
theorem turn7 {M : PySem.Model} {A : PySem.Around} {E : PySem.Value → PySem.Shared → Prop} {s : PySem.Shared} {env : PySem.Env} {Q : PySem.Flow → PySem.Shared → Prop} (h : Q .next s) : PySem.wpAny M A (PySem.execs [] env) Q E s := by
  w_top off
  walk1
  exact h
end Mine
section
open PySem PySem.W PyProof.Rows
set_option maxRecDepth 100000
set_option maxHeartbeats 8000000
namespace Mine
open Builtin.Int (intBits)
theorem ints5 {vs : List Value} {d0 d1 d2 d3 d4 : Int} (h : IntsAre vs [d0, d1, d2, d3, d4]) : ∃ t0 t1 t2 t3 t4, vs = [.int d0 t0, .int d1 t1, .int d2 t2, .int d3 t3, .int d4 t4] := by
  obtain ⟨t0, _, rfl, h1⟩ := h.cons_inv
  obtain ⟨t1, _, rfl, h2⟩ := h1.cons_inv
  obtain ⟨t2, _, rfl, h3⟩ := h2.cons_inv
  obtain ⟨t3, _, rfl, h4⟩ := h3.cons_inv
  obtain ⟨t4, _, rfl, h5⟩ := h4.cons_inv
  obtain rfl := h5.nil_inv
  exact ⟨_, _, _, _, _, rfl⟩
theorem horner {r d b B : Int} (hr : 0 ≤ r) (hr' : r < b) (hd : 0 ≤ d) (hd' : d < B) : 0 ≤ r * B + d ∧ r * B + d < b * B := by
  have h1 := Int.mul_nonneg hr (by omega : 0 ≤ B)
  have h2 : (r + 1) * B ≤ b * B := Int.mul_le_mul_of_nonneg_right (by omega) (by omega)
  rw [Int.add_mul] at h2
  omega
/-- what the division's defs need of the heap: the top, and both code tables filled -/
structure G2 (w : World) (p : Program) (loose : List Str) (mean : ExcName → Option Value) (mg mb : Str → Option Value) (h₀ h : Heap) : Prop where
  X : (Mine.K w.params).In h₀
  T : Top p loose mean mg mb h₀
  k : Keep h₀ h
  n30 : h₀.get? 30 = none
  n37 : h₀.get? 37 = none
  c30 : CodeHd h₀ 34 30
  c37 : CodeHd h₀ 41 37
  f30 : Full 30 32 4 "_int2digits.<locals>.inner" h
  f37 : Full 37 47 4 "_digits2int.<locals>.inner" h
theorem G2.keeps {w : World} {p : Program} {loose : List Str} {mean : ExcName → Option Value} {mg mb : Str → Option Value} {h₀ h h' : Heap} (G : G2 w p loose mean mg mb h₀ h) (k : Keep h h') : G2 w p loose mean mg mb h₀ h' :=
  ⟨G.X, G.T, G.k.trans k, G.n30, G.n37, G.c30, G.c37, G.f30.keeps k, G.f37.keeps k⟩
section
variable {prog : Program} {w : World} {dp un : Nat} {fr : Option (List Env)} {gd : Option (List Code)} {s : Shared} {p : Program} {loose : List Str} {mean : ExcName → Option Value} {mg mb : Str → Option Value} {Q : Value → Shared → Prop} {E : Value → Shared → Prop}
  {h₀ : Heap}
theorem c_i2d {g : Heap} {L : Addr} {m : Str → Option Value} {news : List (Addr × Obj)} {a n : Int} {ta tn : Tok} {N : Nat} (F : Fr g L s.heap m) (NN : News g L s.heap news) (G : G2 w p loose mean mg mb h₀ s.heap) (hroom : dp + 1 + N < recursionLimit)
   (hn : 0 < n) (hn' : n < 8000) (hN : 1 ≤ N) (hN' : N ≤ 100) (ha : 2 ^ (n.toNat * (N - 1)) ≤ a) (ha' : a < 2 ^ (n.toNat * N))
   (ret : ∀ l vs ep h' tk', Fr g L h' m → News g L h' ((l, W.listOf vs.toArray ep) :: news) → AllNe l news → IntsAre vs (digs (2 ^ n.toNat) a N) → Q (.ref l) { s with heap := h', toks := tk' }) :
   wpAny (model prog w) (AR dp un fr gd) (call (.ref 35) [.int a ta, .int n tn]) Q E s := by
  obtain ⟨c', e, r, n'⟩ := G.f30
  refine c_i2d_again G.X G.T G.k G.c30 e G.n30 r n' hroom hn hn' hN hN' ha ha' ?_
  intro l vs ep h' tk' k hnone ho hI
  exact ret l vs ep h' tk' (frKeep F k) (newsAdd F NN k hnone ho) (newsNe hnone NN) hI
theorem c_d2i {g : Heap} {L : Addr} {m : Str → Option Value} {news : List (Addr × Obj)} {n : Int} {tn : Tok} {l : Addr} {items : List Value} {ns : List Int} (F : Fr g L s.heap m) (NN : News g L s.heap news) (G : G2 w p loose mean mg mb h₀ s.heap) (hroom : dp + 1 + ns.length < recursionLimit)
   (hl : s.heap.IsList l items.toArray) (hI : IntsAre items ns) (hn : 0 < n) (hn' : n < 8000) (hN : 1 ≤ ns.length) (hN' : ns.length ≤ 100) (hd0 : ∀ d ∈ ns, 0 ≤ d) (hd1 : ∀ d ∈ ns, d < 2 ^ n.toNat)
   (ret : ∀ t h' tk', Fr g L h' m → News g L h' news → Q (.int (dval (2 ^ n.toNat) ns) t) { s with heap := h', toks := tk' }) :
   wpAny (model prog w) (AR dp un fr gd) (call (.ref 42) [.ref l, .int n tn]) Q E s := by
  obtain ⟨c', e, r, n'⟩ := G.f37
  refine c_d2i_again G.X G.T G.k G.c37 e G.n37 r n' hroom hl hI hn hn' hN hN' hd0 hd1 ?_
  intro t h' tk' k
  exact ret t h' tk' (frKeep F k) (newsKeep NN k)
local macro_rules
  | `(tactic| walk_at "binaryOp LShift int int") => `(tactic| (refine lshift_int (by omega) (szOf (by assumption) (by omega)) ?_; try dsimp only))
  | `(tactic| walk_at "call builtin:int.bit_length") => `(tactic| (refine bitLenTo (by assumption) ?_; try dsimp only))
theorem c_div2q {L : Addr} {m : Str → Option Value} {news : List (Addr × Obj)} {r₀ d b n : Int} {ta tb tn : Tok} (F : Fr h₀ L s.heap m) (N : News h₀ L s.heap news) (X : (Mine.K w.params).In h₀) (T : Top p loose mean mg mb h₀) (hroom : dp + 3 < recursionLimit)
   (hn0 : 2 ≤ n) (hn : n < 7998) (hb : Hold (2 ^ (n.toNat - 1) ≤ b ∧ b < 2 ^ n.toNat)) (hr : Hold (0 ≤ r₀ ∧ r₀ < b)) (hd : Hold (0 ≤ d ∧ d < 2 ^ n.toNat))
   (ret : ∀ t tq tr q r h' tk', Hold (r₀ * 2 ^ n.toNat + d = b * q + r) → Hold (0 ≤ q ∧ q < 2 ^ n.toNat) → Hold (0 ≤ r ∧ r < b) → intBits r ≤ n.toNat → Fr h₀ L h' m → News h₀ L h' ((t, tupObj [.int q tq, .int r tr]) :: news) → AllNe t news → Q (.ref t) { s with heap := h', toks := tk' }) :
   wpAny (model prog w) (AR dp un fr gd) (call (.ref 21) [.int (r₀ * 2 ^ n.toNat + d) ta, .int b tb, .int n tn]) Q E s := by
  obtain ⟨hb1, hb2⟩ := hb
  have hb0 : 0 < b := by have := p2pos (n.toNat - 1); omega
  obtain ⟨x, y⟩ := horner hr.1 hr.2 hd.1 hd.2
  refine c_div2 F N X T hroom hn0 hn x hb1 hb2 y fun t tq tr h' tk' F' N' l => ?_
  have e1 := Int.emod_add_mul_ediv (r₀ * 2 ^ n.toNat + d) b
  have e2 := Int.emod_nonneg (r₀ * 2 ^ n.toNat + d) (Int.ne_of_gt hb0)
  have e3 := Int.emod_lt_of_pos (r₀ * 2 ^ n.toNat + d) hb0
  have e4 := Int.ediv_nonneg x (Int.le_of_lt hb0)
  exact ret t tq tr _ _ h' tk' (by show _ = _; omega) ⟨e4, Int.ediv_lt_of_lt_mul hb0 (by rw [Int.mul_comm (2 ^ n.toNat)]; exact y)⟩ ⟨e2, e3⟩ (bits_le e2 (Int.lt_trans e3 hb2)) F' N' l
local macro_rules
  | `(tactic| walk_at "exec For Name Call cons nil") => `(tactic| kfm_turns)
  | `(tactic| walk_at "pyIter ref") => `(tactic| kfm_turns)
  | `(tactic| walk_at "eval Name") => `(tactic| kpt_turns)
theorem subA {i N : Nat} : N - (i + 1) = N - 1 - i := by omega
theorem subB {i N : Nat} (h : i < N) : N - i = N - 1 - i + 1 := by omega
/-- between the turns of the long division -/
inductive DmI (ql l : Addr) (b n : Int) (tb : Tok) (vs : List Value) (ep : Nat) (ds : List Int) (N : Nat) (i : Nat) (m : Str → Option Value) (h : Heap) : Prop
  | mk (r : Int) (tr tn : Tok) (qs : List Value) (ns : List Int) (ep' : Nat) (a1 : m "r" = some (.int r tr)) (a2 : m "q_digits" = some (.ref ql)) (a3 : m "b" = some (.int b tb)) (a4 : m "n" = some (.int n tn)) (a5 : h.get? ql = some (W.listOf qs.toArray ep')) (a6 : h.get? l = some (W.listOf vs.toArray ep))
    (a7 : IntsAre qs ns) (a8 : ns.length = i) (a9 : Hold (0 ≤ r ∧ r < b)) (a10 : intBits r ≤ n.toNat) (a11 : ∀ q ∈ ns, 0 ≤ q ∧ q < 2 ^ n.toNat) (a12 : Hold (b * dval (2 ^ n.toNat) ns.reverse + r = dval (2 ^ n.toNat) (ds.drop (N - i))))
theorem c_dmpos0 {N : Nat} {a b n : Int} {ta tb : Tok} (G : G2 w p loose mean mg mb h₀ s.heap) (hroom : dp + 5 + N < recursionLimit) (hbn : (intBits b : Int) = n) (hn0 : 2 ≤ n) (hn : n < 7998) (hb : 0 < b)
   (hN : 1 ≤ N) (hN' : N ≤ 100) (ha : 2 ^ (n.toNat * (N - 1)) ≤ a) (ha' : a < 2 ^ (n.toNat * N))
   (ret : ∀ t tq tr h' tk', Keep s.heap h' → s.heap.get? t = none → h'.get? t = some (tupObj [.int (a / b) tq, .int (a % b) tr]) → Q (.ref t) { s with heap := h', toks := tk' }) :
   wpAny (model prog w) (AR dp un fr gd) (call (.ref 49) [.int a ta, .int b tb]) Q E s := by
  w_top off
  have X := G.X.keeps G.k
  have T := G.T.keeps G.k
  refine enter (binds := [("a", .int a ta), ("b", .int b tb)]) X T (by k_is) (by k_is) (by show dp < _; omega) (BindsTo.of_eq rfl) (locs rfl) ?_ rfl rfl rfl (by decide)
  intro L' h₁ F NN
  refine retQ fun Q' E' hQ => ?_
  have hB := p2pos n.toNat
  k_steps
  refine c_i2d (by k_asm) (by k_asm) (G.keeps (Fr.keep (by k_asm))) (N := N) (by show dp + 1 + 1 + N < _; omega) (by omega) (by omega) hN hN' ha ha' ?_
  intro l vs ep h' tk' F' N' l' hI
  have hds := digs_length (2 ^ n.toNat) N a
  have hr := digs_range hB N a
  have hv := dval_digs hB N (x := a) (by have := p2pos (n.toNat * (N - 1)); omega) (by rw [← Int.pow_mul]; exact ha')
  generalize digs (2 ^ n.toNat) a N = ds at *
  have hvl := hI.length
  have hbb : Hold (2 ^ (n.toNat - 1) ≤ b ∧ b < 2 ^ n.toNat) := ⟨le_of_bits (by omega) (by omega), lt_of_bits (by omega)⟩
  clear ha ha'
  k_steps
  show wpAny _ _ _ _ _ _
  refine wpAny_For (hs := by intro _; rfl) ?_
  k_steps
  show wpAny _ _ _ _ _ _
  rename News _ _ _ _ => N2
  rename Fr _ _ _ _ => F2
  rename (_ : Nat) < _ ∧ _ => l2
  rename (_ : Nat) < _ => l3
  rename_i ql _ _ D _
  refine wpAny_pyIter_revIter ⟨_, N2.get (.head _), rfl, rfl⟩ ?_
  have hq0 : s.heap.get? ql = none := N2.fresh (.tail _ (.head _))
  have hl0 : s.heap.get? l = none := N2.fresh (.tail _ (.tail _ (.head _)))
  have hD0 : s.heap.get? D = none := N2.fresh (.head _)
  have hqL : @Ne Nat ql L' := (N2 _ (.tail _ (.head _))).2.1
  have hlL : @Ne Nat l L' := (N2 _ (.tail _ (.tail _ (.head _)))).2.1
  have hDL : @Ne Nat D L' := (N2 _ (.head _)).2.1
  have hlD : @Ne Nat l D := Nat.ne_of_lt l2.2
  have hqD : @Ne Nat ql D := Nat.ne_of_lt l2.1
  have hlq : @Ne Nat l ql := Nat.ne_of_lt l3
  have hsz : vs.toArray.size = N := by rw [List.size_toArray, hvl, hds]
  refine forW (Walks.listRev rfl D l hlD vs.toArray) rfl rfl ?_ hD0
    (DmI ql l b n tb vs ep ds N) ?_ ?_ F2 ?_ ?_ ?_ ?_
  · intro q
    rcases List.mem_cons.mp q with q | q
    · exact hDL q.symm
    · exact hlL (List.mem_singleton.mp q).symm
  · rintro i m h h' ⟨r, tr, tn, qs, ns, ep', a1, a2, a3, a4, a5, a6, a7, a8, a9, b0, b1, b2⟩ k
    exact ⟨r, tr, tn, qs, ns, ep', a1, a2, a3, a4, k _ _ hqD hqL a5, k _ _ hlD hlL a6, a7, a8, a9, b0, b1, b2⟩
  · refine ⟨Nat.zero_le _, ?_, ⟨_, N2.get (.tail _ (.tail _ (.head _))), rfl, _, rfl⟩⟩
    exact ⟨_, N2.get (.head _), rfl, by show Data.fields _ = _; simp⟩
  · refine ⟨0, _, _, [], [], 0, rfl, rfl, rfl, rfl, N2.get (.tail _ (.head _)), N2.get (.tail _ (.tail _ (.head _))), .nil, rfl, ⟨Int.le_refl _, hb⟩, Nat.zero_le _, by simp, ?_⟩
    show _ = _
    rw [Nat.sub_zero, ← hds, List.drop_length]
    simp [dval]
  · clear F2 N2 l2 l3
    rintro i v m₁ h tk oI hi hP ⟨r, tr, tn, qs, ns, ep', a1, a2, a3, a4, a5, a6, a7, a8, a9, b0, b1, b2⟩ F hoI
    rw [hsz] at hi hP
    obtain ⟨d, td, hd1, rfl⟩ : ∃ d td, ds[N - 1 - i]? = some d ∧ v = .int d td := by
      have h1 : vs[N - 1 - i]? = some v := by simpa using hP
      obtain ⟨d, td, h2, h3⟩ := hI.at _ _ h1
      exact ⟨d, td, h3, h2⟩
    have hdm : d ∈ ds := List.mem_of_getElem? hd1
    have NN : News s.heap L' h [(ql, W.listOf qs.toArray ep'), (D, oI), (l, W.listOf vs.toArray ep)] := by
      intro p hp
      rcases List.mem_cons.mp hp with rfl | hp
      · exact ⟨a5, hqL, hq0⟩
      · rcases List.mem_cons.mp hp with rfl | hp
        · exact ⟨hoI, hDL, hD0⟩
        · rw [List.mem_singleton.mp hp]; exact ⟨a6, hlL, hl0⟩
    have hlen := a7.length
    k_steps
    refine c_div2q (by k_asm) (by k_asm) X T (by show dp + 4 < _; omega) hn0 hn hbb a9 (hr d hdm) ?_
    intro t tq tr q r' h' tk' e1 e2 e3 e4 F' N' l4
    simp only [AllNe, and_true] at l4
    k_steps
    rename News _ _ _ _ => N5
    rename Fr _ _ _ _ => F5
    refine ⟨_, _, _, rfl, F5, ?_, r', tr, tn, qs ++ [.int q tq], ns ++ [q], ep' + 1, rfl, ?_, ?_, ?_, ?_, N5.get (by k_mem), a7.append (.cons _ _ .nil), by simp [a8], e3, e4, ?_, ?_⟩
    · intro b hb o e
      rcases List.mem_cons.mp hb with rfl | hb
      · rw [hoI] at e; cases e; exact N5.get (by k_mem)
      · rw [List.mem_singleton.mp hb, a6] at e; cases e; rw [List.mem_singleton.mp hb]; exact N5.get (by k_mem)
    · exact a2
    · exact a3
    · exact a4
    · have : (qs ++ [Value.int q tq]).toArray = qs.toArray.push (.int q tq) := by simp
      rw [this]
      exact N5.get (by k_mem)
    · intro z hz
      rcases List.mem_append.mp hz with hz | hz
      · exact b1 z hz
      · rw [List.mem_singleton.mp hz]; exact e2
    · show _ = _
      have hd2 : ds.drop (N - (i + 1)) = d :: ds.drop (N - i) := by
        rw [subA (i := i) (N := N), subB (i := i) (N := N) (by assumption)]
        exact List.drop_eq_getElem?_toList_append.trans (by rw [hd1]; rfl)
      rw [hd2, dval, ← (show _ = _ from b2), List.reverse_append, List.reverse_singleton, List.singleton_append, dval]
      have e1' : r * 2 ^ n.toNat + d = b * q + r' := e1
      grind
  · rintro i h ⟨_, ⟨o, ho, _⟩, _⟩
    exact ⟨o, ho⟩
  · rintro m' h tk ⟨r, tr, tn, qs, ns, ep', a1, a2, a3, a4, a5, a6, a7, a8, a9, b0, b1, b2⟩ F
    dsimp only
    have NN : News s.heap L' h [(ql, W.listOf qs.toArray ep'), (l, W.listOf vs.toArray ep)] := by
      intro p hp
      rcases List.mem_cons.mp hp with rfl | hp
      · exact ⟨a5, hqL, hq0⟩
      · rw [List.mem_singleton.mp hp]; exact ⟨a6, hlL, hl0⟩
    clear F2 N2 l2 l3
    k_steps
    show wpAny _ _ (call (.builtin "list.reverse") [.ref ql]) _ _ _
    refine kl_reverse (by k_asm) (by k_asm) rfl (by k_upd) ?_ ?_
    · have := a7.length
      rw [sizeLine_eq, List.toList_toArray]; omega
    intro h' F' N'
    rw [List.toList_toArray] at N'
    have hIr := PyProof.Rows.IntsAre.reverse a7
    rw [hsz] at a8 b2
    dsimp only
    k_steps
    refine c_d2i (by k_asm) (by k_asm) (G.keeps (Fr.keep (by k_asm))) (ns := ns.reverse) (by show dp + 1 + 1 + ns.reverse.length < _; rw [List.length_reverse]; omega) (News.isList (by k_asm) (by k_mem)) hIr (by omega) (by omega) (by rw [List.length_reverse]; omega) (by rw [List.length_reverse]; omega) (fun d hd => (b1 d (List.mem_reverse.mp hd)).1) (fun d hd => (b1 d (List.mem_reverse.mp hd)).2) ?_
    intro t h2 tk2 F3 N3
    k_steps
    have b2' : b * dval (2 ^ n.toNat) ns.reverse + r = dval (2 ^ n.toNat) (ds.drop (N - N)) := b2
    rw [Nat.sub_self, List.drop_zero, hv] at b2'
    have hu := kbt_unique (a := a) (q := dval (2 ^ n.toNat) ns.reverse) (r := r) hb (by omega) a9.1 a9.2
    rename News _ _ _ _ => N6
    rename Fr _ _ _ _ => F6
    rw [← hu.1, ← hu.2] at N6
    exact hQ _ _ (ret _ _ _ _ _ F6.keep (N6.fresh (by k_mem)) (N6.get (by k_mem)))
end
end Mine
end
namespace Mine
theorem turn8 {M : PySem.Model} {A : PySem.Around} {E : PySem.Value → PySem.Shared → Prop} {s : PySem.Shared} {env : PySem.Env} {Q : PySem.Flow → PySem.Shared → Prop} (h : Q .next s) : PySem.wpAny M A (PySem.execs [] env) Q E s := by
  w_top off
  walk1
  exact h
end Mine
section
open PySem PySem.W PyProof.Rows
set_option maxRecDepth 100000
set_option maxHeartbeats 8000000
namespace Mine
open Builtin.Int (intBits)
section
variable {prog : Program} {w : World} {dp un : Nat} {fr : Option (List Env)} {gd : Option (List Code)} {s : Shared} {p : Program} {loose : List Str} {mean : ExcName → Option Value} {mg mb : Str → Option Value} {Q : Value → Shared → Prop} {E : Value → Shared → Prop}
  {h₀ : Heap}
theorem c_dmpos {g : Heap} {L : Addr} {m : Str → Option Value} {news : List (Addr × Obj)} {N : Nat} {a b n : Int} {ta tb : Tok} (F : Fr g L s.heap m) (NN : News g L s.heap news) (G : G2 w p loose mean mg mb h₀ s.heap) (hroom : dp + 5 + N < recursionLimit) (hbn : (intBits b : Int) = n) (hn0 : 2 ≤ n) (hn : n < 7998) (hb : 0 < b) (hN : 1 ≤ N) (hN' : N ≤ 100)
   (ha : 2 ^ (n.toNat * (N - 1)) ≤ a) (ha' : a < 2 ^ (n.toNat * N))
   (ret : ∀ t tq tr h' tk', Fr g L h' m → News g L h' ((t, tupObj [.int (a / b) tq, .int (a % b) tr]) :: news) → AllNe t news → Q (.ref t) { s with heap := h', toks := tk' }) :
   wpAny (model prog w) (AR dp un fr gd) (call (.ref 49) [.int a ta, .int b tb]) Q E s :=
  c_dmpos0 G hroom hbn hn0 hn hb hN hN' ha ha' fun _ _ _ _ _ k hn ho => ret _ _ _ _ _ (frKeep F k) (newsAdd F NN k hn ho) (newsNe hn NN)
theorem c_idmP0 {N : Nat} {a b n : Int} {ta tb : Tok} (G : G2 w p loose mean mg mb h₀ s.heap) (hroom : dp + 6 + N < recursionLimit) (hbn : (intBits b : Int) = n) (hn0 : 2 ≤ n) (hn : n < 7998) (hb : 0 < b) (hN : 1 ≤ N) (hN' : N ≤ 100)
   (ha : 2 ^ (n.toNat * (N - 1)) ≤ a) (ha' : a < 2 ^ (n.toNat * N))
   (ret : ∀ t tq tr h' tk', Keep s.heap h' → s.heap.get? t = none → h'.get? t = some (tupObj [.int (a / b) tq, .int (a % b) tr]) → Q (.ref t) { s with heap := h', toks := tk' }) :
   wpAny (model prog w) (AR dp un fr gd) (call (.ref 56) [.int a ta, .int b tb]) Q E s := by
  w_top off
  have X := G.X.keeps G.k
  have T := G.T.keeps G.k
  have ha0 : 0 < a := by have := p2pos (n.toNat * (N - 1)); omega
  refine enter (binds := [("a", .int a ta), ("b", .int b tb)]) X T (by k_is) (by k_is) (by show dp < _; omega) (BindsTo.of_eq rfl) (locs rfl) ?_ rfl rfl rfl (by decide)
  intro L' h₁ F NN
  refine retQ fun Q' E' hQ => ?_
  k_steps
  · exfalso; omega
  · refine c_dmpos (by k_asm) (by k_asm) (G.keeps (Fr.keep (by k_asm))) (by show dp + 1 + 5 + N < _; omega) hbn hn0 hn hb hN hN' ha ha' ?_
    intro t tq tr h' tk' F' N' l'
    k_steps
    exact hQ _ _ (ret _ _ _ _ _ F'.keep (N'.fresh (by k_mem)) (N'.get (by k_mem)))
theorem c_idmP {g : Heap} {L : Addr} {m : Str → Option Value} {news : List (Addr × Obj)} {N : Nat} {a b n : Int} {ta tb : Tok} (F : Fr g L s.heap m) (NN : News g L s.heap news) (G : G2 w p loose mean mg mb h₀ s.heap) (hroom : dp + 6 + N < recursionLimit) (hbn : (intBits b : Int) = n) (hn0 : 2 ≤ n) (hn : n < 7998) (hb : 0 < b) (hN : 1 ≤ N) (hN' : N ≤ 100)
   (ha : 2 ^ (n.toNat * (N - 1)) ≤ a) (ha' : a < 2 ^ (n.toNat * N))
   (ret : ∀ t tq tr h' tk', Fr g L h' m → News g L h' ((t, tupObj [.int (a / b) tq, .int (a % b) tr]) :: news) → AllNe t news → Q (.ref t) { s with heap := h', toks := tk' }) :
   wpAny (model prog w) (AR dp un fr gd) (call (.ref 56) [.int a ta, .int b tb]) Q E s :=
  c_idmP0 G hroom hbn hn0 hn hb hN hN' ha ha' fun _ _ _ _ _ k hn ho => ret _ _ _ _ _ (frKeep F k) (newsAdd F NN k hn ho) (newsNe hn NN)
theorem c_idmN0 {N : Nat} {a b n : Int} {ta tb : Tok} (G : G2 w p loose mean mg mb h₀ s.heap) (hroom : dp + 7 + N < recursionLimit) (hbn : (intBits b : Int) = n) (hn0 : 2 ≤ n) (hn : n < 7998) (hb : 0 < b) (hN : 1 ≤ N) (hN' : N ≤ 100)
   (ha0 : a < 0) (ha : 2 ^ (n.toNat * (N - 1)) ≤ -a - 1) (ha' : -a - 1 < 2 ^ (n.toNat * N))
   (ret : ∀ t tq tr h' tk', Keep s.heap h' → s.heap.get? t = none → h'.get? t = some (tupObj [.int (a / b) tq, .int (a % b) tr]) → Q (.ref t) { s with heap := h', toks := tk' }) :
   wpAny (model prog w) (AR dp un fr gd) (call (.ref 56) [.int a ta, .int b tb]) Q E s := by
  have X := G.X.keeps G.k
  have T := G.T.keeps G.k
  refine enter (binds := [("a", .int a ta), ("b", .int b tb)]) X T (by k_is) (by k_is) (by show dp < _; omega) (BindsTo.of_eq rfl) (locs rfl) ?_ rfl rfl rfl (by decide)
  intro L' h₁ F NN
  refine retQ fun Q' E' hQ => ?_
  k_steps
  · exfalso; omega
  · refine c_idmP (by k_asm) (by k_asm) (G.keeps (Fr.keep (by k_asm))) (by show dp + 1 + 6 + N < _; omega) hbn hn0 hn hb hN hN' (show _ ≤ -a - 1 from ha) (show -a - 1 < _ from ha') ?_
    intro t tq tr h' tk' F' N' l'
    k_steps
    rename News _ _ _ _ => N6
    rename Fr _ _ _ _ => F6
    have hk := kbt_below a hb
    have e1 : Builtin.bitNot (Builtin.bitNot a / b) = a / b := by show -((-a - 1) / b) - 1 = _; rw [hk.1]
    have e2 : b + Builtin.bitNot (Builtin.bitNot a % b) = a % b := by show b + (-((-a - 1) % b) - 1) = _; rw [hk.2]; omega
    rw [e1, e2] at N6
    exact hQ _ _ (ret _ _ _ _ _ F6.keep (N6.fresh (by k_mem)) (N6.get (by k_mem)))
theorem c_idmN {g : Heap} {L : Addr} {m : Str → Option Value} {news : List (Addr × Obj)} {N : Nat} {a b n : Int} {ta tb : Tok} (F : Fr g L s.heap m) (NN : News g L s.heap news) (G : G2 w p loose mean mg mb h₀ s.heap) (hroom : dp + 7 + N < recursionLimit) (hbn : (intBits b : Int) = n) (hn0 : 2 ≤ n) (hn : n < 7998) (hb : 0 < b) (hN : 1 ≤ N) (hN' : N ≤ 100)
   (ha0 : a < 0) (ha : 2 ^ (n.toNat * (N - 1)) ≤ -a - 1) (ha' : -a - 1 < 2 ^ (n.toNat * N))
   (ret : ∀ t tq tr h' tk', Fr g L h' m → News g L h' ((t, tupObj [.int (a / b) tq, .int (a % b) tr]) :: news) → AllNe t news → Q (.ref t) { s with heap := h', toks := tk' }) :
   wpAny (model prog w) (AR dp un fr gd) (call (.ref 56) [.int a ta, .int b tb]) Q E s :=
  c_idmN0 G hroom hbn hn0 hn hb hN hN' ha0 ha ha' fun _ _ _ _ _ k hn ho => ret _ _ _ _ _ (frKeep F k) (newsAdd F NN k hn ho) (newsNe hn NN)
theorem c_idmBP0 {N : Nat} {a b n : Int} {ta tb : Tok} (G : G2 w p loose mean mg mb h₀ s.heap) (hroom : dp + 7 + N < recursionLimit) (hbn : (intBits b : Int) = n) (hn0 : 2 ≤ n) (hn : n < 7998) (hb : 0 < b) (hN : 1 ≤ N) (hN' : N ≤ 100)
   (ha : 2 ^ (n.toNat * (N - 1)) ≤ -a) (ha' : -a < 2 ^ (n.toNat * N))
   (ret : ∀ t tq tr h' tk', Keep s.heap h' → s.heap.get? t = none → h'.get? t = some (tupObj [.int (-a / b) tq, .int (-(-a % b)) tr]) → Q (.ref t) { s with heap := h', toks := tk' }) :
   wpAny (model prog w) (AR dp un fr gd) (call (.ref 56) [.int a ta, .int (-b) tb]) Q E s := by
  have X := G.X.keeps G.k
  have T := G.T.keeps G.k
  refine enter (binds := [("a", .int a ta), ("b", .int (-b) tb)]) X T (by k_is) (by k_is) (by show dp < _; omega) (BindsTo.of_eq rfl) (locs rfl) ?_ rfl rfl rfl (by decide)
  intro L' h₁ F NN
  refine retQ fun Q' E' hQ => ?_
  k_steps
  · exfalso; omega
  · rw [Int.neg_neg]
    refine c_idmP (by k_asm) (by k_asm) (G.keeps (Fr.keep (by k_asm))) (by show dp + 1 + 6 + N < _; omega) hbn hn0 hn hb hN hN' ha ha' ?_
    intro t tq tr h' tk' F' N' l'
    k_steps
    rename News _ _ _ _ => N6
    rename Fr _ _ _ _ => F6
    exact hQ _ _ (ret _ _ _ _ _ F6.keep (N6.fresh (by k_mem)) (N6.get (by k_mem)))
theorem c_idmBP {g : Heap} {L : Addr} {m : Str → Option Value} {news : List (Addr × Obj)} {N : Nat} {a b n : Int} {ta tb : Tok} (F : Fr g L s.heap m) (NN : News g L s.heap news) (G : G2 w p loose mean mg mb h₀ s.heap) (hroom : dp + 7 + N < recursionLimit) (hbn : (intBits b : Int) = n) (hn0 : 2 ≤ n) (hn : n < 7998) (hb : 0 < b) (hN : 1 ≤ N) (hN' : N ≤ 100)
   (ha : 2 ^ (n.toNat * (N - 1)) ≤ -a) (ha' : -a < 2 ^ (n.toNat * N))
   (ret : ∀ t tq tr h' tk', Fr g L h' m → News g L h' ((t, tupObj [.int (-a / b) tq, .int (-(-a % b)) tr]) :: news) → AllNe t news → Q (.ref t) { s with heap := h', toks := tk' }) :
   wpAny (model prog w) (AR dp un fr gd) (call (.ref 56) [.int a ta, .int (-b) tb]) Q E s :=
  c_idmBP0 G hroom hbn hn0 hn hb hN hN' ha ha' fun _ _ _ _ _ k hn ho => ret _ _ _ _ _ (frKeep F k) (newsAdd F NN k hn ho) (newsNe hn NN)
theorem c_idmBN0 {N : Nat} {a b n : Int} {ta tb : Tok} (G : G2 w p loose mean mg mb h₀ s.heap) (hroom : dp + 8 + N < recursionLimit) (hbn : (intBits b : Int) = n) (hn0 : 2 ≤ n) (hn : n < 7998) (hb : 0 < b) (hN : 1 ≤ N) (hN' : N ≤ 100)
   (ha0 : -a < 0) (ha : 2 ^ (n.toNat * (N - 1)) ≤ - -a - 1) (ha' : - -a - 1 < 2 ^ (n.toNat * N))
   (ret : ∀ t tq tr h' tk', Keep s.heap h' → s.heap.get? t = none → h'.get? t = some (tupObj [.int (-a / b) tq, .int (-(-a % b)) tr]) → Q (.ref t) { s with heap := h', toks := tk' }) :
   wpAny (model prog w) (AR dp un fr gd) (call (.ref 56) [.int a ta, .int (-b) tb]) Q E s := by
  have X := G.X.keeps G.k
  have T := G.T.keeps G.k
  refine enter (binds := [("a", .int a ta), ("b", .int (-b) tb)]) X T (by k_is) (by k_is) (by show dp < _; omega) (BindsTo.of_eq rfl) (locs rfl) ?_ rfl rfl rfl (by decide)
  intro L' h₁ F NN
  refine retQ fun Q' E' hQ => ?_
  k_steps
  · exfalso; omega
  · rw [Int.neg_neg]
    refine c_idmN (by k_asm) (by k_asm) (G.keeps (Fr.keep (by k_asm))) (by show dp + 1 + 7 + N < _; omega) hbn hn0 hn hb hN hN' ha0 ha ha' ?_
    intro t tq tr h' tk' F' N' l'
    k_steps
    rename News _ _ _ _ => N6
    rename Fr _ _ _ _ => F6
    exact hQ _ _ (ret _ _ _ _ _ F6.keep (N6.fresh (by k_mem)) (N6.get (by k_mem)))
theorem c_idmBN {g : Heap} {L : Addr} {m : Str → Option Value} {news : List (Addr × Obj)} {N : Nat} {a b n : Int} {ta tb : Tok} (F : Fr g L s.heap m) (NN : News g L s.heap news) (G : G2 w p loose mean mg mb h₀ s.heap) (hroom : dp + 8 + N < recursionLimit) (hbn : (intBits b : Int) = n) (hn0 : 2 ≤ n) (hn : n < 7998) (hb : 0 < b) (hN : 1 ≤ N) (hN' : N ≤ 100)
   (ha0 : -a < 0) (ha : 2 ^ (n.toNat * (N - 1)) ≤ - -a - 1) (ha' : - -a - 1 < 2 ^ (n.toNat * N))
   (ret : ∀ t tq tr h' tk', Fr g L h' m → News g L h' ((t, tupObj [.int (-a / b) tq, .int (-(-a % b)) tr]) :: news) → AllNe t news → Q (.ref t) { s with heap := h', toks := tk' }) :
   wpAny (model prog w) (AR dp un fr gd) (call (.ref 56) [.int a ta, .int (-b) tb]) Q E s :=
  c_idmBN0 G hroom hbn hn0 hn hb hN hN' ha0 ha ha' fun _ _ _ _ _ k hn ho => ret _ _ _ _ _ (frKeep F k) (newsAdd F NN k hn ho) (newsNe hn NN)
end
end Mine
end
namespace Mine
theorem turn9 {M : PySem.Model} {A : PySem.Around} {E : PySem.Value → PySem.Shared → Prop} {s : PySem.Shared} {env : PySem.Env} {Q : PySem.Flow → PySem.Shared → Prop} (h : Q .next s) : PySem.wpAny M A (PySem.execs [] env) Q E s := by
  w_top off
  walk1
  exact h
end Mine
section
open PySem PySem.W PyProof.Rows
set_option maxRecDepth 100000
set_option maxHeartbeats 8000000
namespace Mine
open Builtin.Int (intBits)
section
variable {prog : Program} {w : World} {dp un : Nat} {fr : Option (List Env)} {gd : Option (List Code)} {s : Shared} {p : Program} {loose : List Str} {mean : ExcName → Option Value} {mg mb : Str → Option Value} {Q : Value → Shared → Prop} {E : Value → Shared → Prop}
  {h₀ : Heap}
theorem newsUpdF {g h h' : Heap} {L l : Addr} {o o' : Obj} {news : List (Addr × Obj)} {gf : Obj → List (Addr × Obj)} (N : News g L h news) (kb : KeepB l h h') (ho : h'.get? l = some o') (U : UpdF l o news gf) : News g L h' (gf o') := by
  obtain ⟨pre, post, rfl, e, h1, h2⟩ := U.split
  rw [e]
  intro p hp
  rcases List.mem_append.mp hp with hp | hp
  · have n := N p (List.mem_append_left _ hp)
    exact ⟨kb _ _ (h1 p hp) n.1, n.2⟩
  · rcases List.mem_cons.mp hp with rfl | hp
    · exact ⟨ho, (N (l, o) (List.mem_append_right _ (.head _))).2⟩
    · have n := N p (List.mem_append_right _ (.tail _ hp))
      exact ⟨kb _ _ (h2 p hp) n.1, n.2⟩
theorem memUpdF {l : Addr} {o : Obj} {news : List (Addr × Obj)} {gf : Obj → List (Addr × Obj)} (U : UpdF l o news gf) : (l, o) ∈ news := by
  obtain ⟨pre, post, rfl, e, h1, h2⟩ := U.split
  exact List.mem_append_right _ (.head _)
theorem newsNew {g h h' : Heap} {L c : Addr} {m : Str → Option Value} {o : Obj} {news : List (Addr × Obj)} (F : Fr g L h m) (N : News g L h' news) (hn : h.get? c = none) (ho : h'.get? c = some o) : News g L h' ((c, o) :: news) := by
  intro p hp
  rcases List.mem_cons.mp hp with rfl | hp
  · refine ⟨ho, fun e => ?_, ?_⟩
    · obtain ⟨oL, _, _, hL, _⟩ := F.ns
      rw [show c = L from e, hL] at hn; cases hn
    · cases q : g.get? c with
      | none => rfl
      | some o' => rw [F.keep _ _ q] at hn; cases hn
  · exact N p hp
theorem c_d2iF {g : Heap} {L : Addr} {m : Str → Option Value} {news : List (Addr × Obj)} {gf : Obj → List (Addr × Obj)} {n : Int} {tn : Tok} {l : Addr} {items : List Value} {ns : List Int} (F : Fr g L s.heap m) (NN : News g L s.heap news) (X : (Mine.K w.params).In g) (T : Top p loose mean mg mb g) (C : CodeHd g 41 37) (U : UpdF 37 (tabObj #[]) news gf) (hroom : dp + 1 + ns.length < recursionLimit)
   (hl : s.heap.IsList l items.toArray) (hI : IntsAre items ns) (hn : 0 < n) (hn' : n < 8000) (hN : 1 ≤ ns.length) (hN' : ns.length ≤ 100) (hd0 : ∀ d ∈ ns, 0 ≤ d) (hd1 : ∀ d ∈ ns, d < 2 ^ n.toNat)
   (ret : ∀ t h' tk' c' oc vs tt, Fr g L h' m → News g L h' ((c', oc) :: gf (tabObj #[rawInt 47, rawInt 4, .ref c'])) → AllNe c' news → oc.data = .fields vs → vs[1]? = some (.str "_digits2int.<locals>.inner" tt) → Q (.int (dval (2 ^ n.toNat) ns) t) { s with heap := h', toks := tk' }) :
   wpAny (model prog w) (AR dp un fr gd) (call (.ref 42) [.ref l, .int n tn]) Q E s := by
  have hm := memUpdF U
  refine c_d2i_first X T F.keep C (NN.get hm) (NN.fresh hm) hroom hl hI hn hn' hN hN' hd0 hd1 ?_
  rintro t h' tk' kb ⟨c', oc, vs, tt, e1, e2, e3, e4, e5⟩
  have F' := frKeepB F kb (NN.fresh hm) (Ne.symm (NN _ hm).2.1)
  exact ret t h' tk' c' oc vs tt F' (newsNew F (newsUpdF NN kb e1 U) e5 e2) (newsNe e5 NN) e3 e4
theorem c_i2dF {g : Heap} {L : Addr} {m : Str → Option Value} {news : List (Addr × Obj)} {gf : Obj → List (Addr × Obj)} {a n : Int} {ta tn : Tok} {N : Nat} (F : Fr g L s.heap m) (NN : News g L s.heap news) (X : (Mine.K w.params).In g) (T : Top p loose mean mg mb g) (C : CodeHd g 34 30) (U : UpdF 30 (tabObj #[]) news gf) (hroom : dp + 1 + N < recursionLimit)
   (hn : 0 < n) (hn' : n < 8000) (hN : 1 ≤ N) (hN' : N ≤ 100) (ha : 2 ^ (n.toNat * (N - 1)) ≤ a) (ha' : a < 2 ^ (n.toNat * N))
   (ret : ∀ l vs ep h' tk' c' oc ws tt, Fr g L h' m → News g L h' ((l, PySem.W.listOf vs.toArray ep) :: (c', oc) :: gf (tabObj #[rawInt 32, rawInt 4, .ref c'])) → AllNe l news → AllNe c' news → @Ne Nat c' l → oc.data = .fields ws → ws[1]? = some (.str "_int2digits.<locals>.inner" tt) → IntsAre vs (digs (2 ^ n.toNat) a N) → Q (.ref l) { s with heap := h', toks := tk' }) :
   wpAny (model prog w) (AR dp un fr gd) (call (.ref 35) [.int a ta, .int n tn]) Q E s := by
  have hm := memUpdF U
  refine c_i2d_first X T F.keep C (NN.get hm) (NN.fresh hm) hroom hn hn' hN hN' ha ha' ?_
  rintro l vs ep h' tk' kb ⟨c', oc, ws, tt, e1, e2, e3, e4, e5⟩ hnone ho hI
  have F' := frKeepB F kb (NN.fresh hm) (Ne.symm (NN _ hm).2.1)
  refine ret l vs ep h' tk' c' oc ws tt F' (newsNew F (newsNew F (newsUpdF NN kb e1 U) e5 e2) hnone ho) (newsNe hnone NN) (newsNe e5 NN) (fun q => ?_) e3 e4 hI
  rw [show c' = l from q, ho] at e2
  cases e2
  cases e3
theorem neTup2 {A : Around} {g : Heap} {L a b : Addr} {news : List (Addr × Obj)} {x1 x2 y1 y2 : Int} {t1 t2 u1 u2 : Tok} (N : News g L s.heap news) (ha : (a, tupObj [.int x1 t1, .int x2 t2]) ∈ news) (hb : (b, tupObj [.int y1 u1, .int y2 u2]) ∈ news) (hu : A.units + 64 < cLine) (e1 : x1 = y1) (e2 : x2 = y2) (h : Q (.bool false) s) : wpAny (model prog w) A (compareOp .NotEq (.ref a) (.ref b)) Q E s := by
  refine ne_dataH (reads_tuple_at (N.get ha) rfl rfl (.cons (.int _ _) (.cons (.int _ _) .nil))) (reads_tuple_at (N.get hb) rfl rfl (.cons (.int _ _) (.cons (.int _ _) .nil))) (by rfl) (by rfl) hu ?_
  subst e1 e2
  simp only [PyData.eqv, PyData.eqvAll, beq_self_eq_true, Bool.and_true, Bool.not_true]
  exact h
theorem G2.ofNews {g h : Heap} {L c' c6 : Addr} {m : Str → Option Value} {news : List (Addr × Obj)} {oc oc6 : Obj} {ws ws6 : Array Value} {tt tt6 : Tok} (X : (Mine.K w.params).In g) (T : Top p loose mean mg mb g) (C30 : CodeHd g 34 30) (C37 : CodeHd g 41 37) (hoc : oc.data = .fields ws) (hws : ws[1]? = some (.str "_digits2int.<locals>.inner" tt)) (hoc6 : oc6.data = .fields ws6) (hws6 : ws6[1]? = some (.str "_int2digits.<locals>.inner" tt6)) (ne : @Ne Nat c' 37) (ne6 : @Ne Nat c6 30)
    (F : Fr g L h m) (N : News g L h news) (m37 : (37, tabObj #[rawInt 47, rawInt 4, .ref c']) ∈ news) (mc : (c', oc) ∈ news) (m30 : (30, tabObj #[rawInt 32, rawInt 4, .ref c6]) ∈ news) (mc6 : (c6, oc6) ∈ news) : G2 w p loose mean mg mb g h :=
  ⟨X, T, F.keep, N.fresh m30, N.fresh m37, C30, C37, ⟨c6, N.get m30, codeRec_news N mc6 hoc6 hws6, ne6⟩, ⟨c', N.get m37, codeRec_news N mc hoc hws, ne⟩⟩
theorem divNeg {x b q r : Int} (hb : 0 < b) (hq : x / b = q) (hr : x % b = r) (h0 : 0 < r) : -x / b = -q - 1 ∧ -x % b = b - r := by
  have e := Int.emod_add_mul_ediv x b
  have l := Int.emod_lt_of_pos x hb
  rw [hq, hr] at e
  rw [hr] at l
  exact kbt_unique (a := -x) (b := b) (q := -q - 1) (r := b - r) hb (by grind) (by omega) (by omega)
theorem ints4 {vs : List Value} {d0 d1 d2 d3 : Int} (h : IntsAre vs [d0, d1, d2, d3]) : ∃ t0 t1 t2 t3, vs = [.int d0 t0, .int d1 t1, .int d2 t2, .int d3 t3] := by
  obtain ⟨t0, _, rfl, h1⟩ := h.cons_inv
  obtain ⟨t1, _, rfl, h2⟩ := h1.cons_inv
  obtain ⟨t2, _, rfl, h3⟩ := h2.cons_inv
  obtain ⟨t3, _, rfl, h4⟩ := h3.cons_inv
  obtain rfl := h4.nil_inv
  exact ⟨_, _, _, _, rfl⟩
theorem freshHide2 {h : Heap} {b : Addr} {o1 o2 : Obj} (q : (hideAll h (List.map (fun x => x.fst) [((37 : Addr), o1), ((30 : Addr), o2)])).get? b = none) (h1 : @Ne Nat b 37) (h2 : @Ne Nat b 30) : h.get? b = none := by
  cases e : h.get? b with
  | none => rfl
  | some o => rw [hideAll_get _ e (by simp only [List.map_cons, List.map_nil, List.mem_cons, List.not_mem_nil, or_false, not_or]; exact ⟨h1, h2⟩)] at q; cases q
theorem mulB {c U : Int} (h0 : 0 ≤ c) (h7 : c ≤ 7) (hU : 0 ≤ U) : 0 ≤ c * U ∧ c * U ≤ 7 * U := ⟨Int.mul_nonneg h0 hU, Int.mul_le_mul_of_nonneg_right h7 hU⟩
theorem isListNews {g h : Heap} {L l : Addr} {vs : Array Value} {ep : Nat} {news : List (Addr × Obj)} (N : News g L h news) (hm : (l, PySem.W.listOf vs ep) ∈ news) : h.IsList l vs := ⟨_, N.get hm, rfl, _, rfl⟩
local macro_rules
  | `(tactic| walk_at "exec Assign cons ListComp") => `(tactic| kfm_turns)
  | `(tactic| walk_at "pyIter ref") => `(tactic| kfm_turns)
  | `(tactic| walk_at "compareOp NotEq ref ref") => `(tactic| kfm_turns)
  | `(tactic| k_lt $h:ident) => `(tactic| replace $h := allLt_of $h)
theorem allNeLt {d : Addr} : ∀ {l : List (Addr × Obj)}, AllLt d l → AllNe d l
  | [], _ => trivial
  | _ :: _, h => ⟨Nat.ne_of_lt h.1, allNeLt h.2⟩
theorem bits7 {c : Int} (h0 : 0 ≤ c) (h7 : c ≤ 7) : intBits c ≤ 64 := intBits_le_64 (Int.lt_of_lt_of_le (by decide) h0) (Int.lt_of_le_of_lt h7 (by decide))
theorem fB {B U f : Int} (hB : B = 1024 * U) (hU : 1024 ≤ U) (h : f ≤ 7 * U) : f < B := by omega
theorem fB2 {B U a b : Int} (hB : B = 1024 * U) (hU : 1024 ≤ U) (h : 0 ≤ a ∧ a ≤ 7 * U) (g : 0 ≤ b ∧ b ≤ 7 * U) : 0 ≤ a + b ∧ a + b < B := by omega
theorem fB3 {B U a b c : Int} (hB : B = 1024 * U) (hU : 1024 ≤ U) (h : 0 ≤ a ∧ a ≤ 7 * U) (g : 0 ≤ b ∧ b ≤ 7 * U) (i : 0 ≤ c ∧ c ≤ 7 * U) : 0 ≤ a + b + c ∧ a + b + c < B := by omega
theorem fB4 {B U a b c d : Int} (hB : B = 1024 * U) (hU : 1024 ≤ U) (h : 0 ≤ a ∧ a ≤ 7 * U) (g : 0 ≤ b ∧ b ≤ 7 * U) (i : 0 ≤ c ∧ c ≤ 7 * U) (j : 0 ≤ d ∧ d ≤ 7 * U) : 0 ≤ a + b + c + d ∧ a + b + c + d < B := by omega
theorem sum5 {U a b c d e : Int} (hU : 1024 ≤ U) (h : U ≤ a) (g : 0 ≤ b) (i : 0 ≤ c) (j : 0 ≤ d) (k : 0 ≤ e) : 0 < a + b + c + d + e := by omega
theorem Bm1 {B U : Int} (hB : B = 1024 * U) (hU : 1024 ≤ U) : 0 < B - 1 := by omega
theorem c_bounds1 {lc : Addr} {vc : List Value} {c0 c1 c2 c3 c4 W : Int} {tw : Tok} (X : (Mine.K w.params).In h₀) (T : Top p loose mean mg mb h₀) (k0 : Keep h₀ s.heap) (C30 : CodeHd h₀ 34 30) (C37 : CodeHd h₀ 41 37)
   (hP30 : s.heap.get? 30 = some (tabObj #[])) (hP37 : s.heap.get? 37 = some (tabObj #[])) (hn30 : h₀.get? 30 = none) (hn37 : h₀.get? 37 = none) (hroom : dp + 20 < recursionLimit) (hun : un + 100 < cLine)
   (hW : 20 ≤ W) (hW' : W < 7000) (hl : s.heap.IsList lc vc.toArray) (hI : IntsAre vc [c0, c1, c2, c3, c4]) (h0 : 1 ≤ c0 ∧ c0 ≤ 7) (h1 : 0 ≤ c1 ∧ c1 ≤ 7) (h2 : 0 ≤ c2 ∧ c2 ≤ 7) (h3 : 0 ≤ c3 ∧ c3 ≤ 7) (h4 : 0 ≤ c4 ∧ c4 ≤ 7)
   (ret : ∀ l (vs : List Value) ep h' tk', (∀ b o, b ≠ 30 → b ≠ 37 → s.heap.get? b = some o → h'.get? b = some o) → s.heap.get? l = none → h'.get? l = some (PySem.W.listOf vs.toArray ep) → IntsAre vs [c0 * 2 ^ (W - 10).toNat, c0 * 2 ^ (W - 10).toNat + c1 * 2 ^ (W - 10).toNat, c0 * 2 ^ (W - 10).toNat + c1 * 2 ^ (W - 10).toNat + c2 * 2 ^ (W - 10).toNat, c0 * 2 ^ (W - 10).toNat + c1 * 2 ^ (W - 10).toNat + c2 * 2 ^ (W - 10).toNat + c3 * 2 ^ (W - 10).toNat, c0 * 2 ^ (W - 10).toNat + c1 * 2 ^ (W - 10).toNat + c2 * 2 ^ (W - 10).toNat + c3 * 2 ^ (W - 10).toNat + c4 * 2 ^ (W - 10).toNat] → (∃ ps, h'.get? 37 = some (tabObj ps)) → (∃ ps, h'.get? 30 = some (tabObj ps)) → Q (.ref l) { s with heap := h', toks := tk' }) :
   wpAny (model prog w) (AR dp un fr gd) (call (.ref 105) [.ref lc, .int W tw]) Q E s := by
  w_top off
  refine enterC (binds := [("counts", .ref lc), ("width", .int W tw)]) (hid := [(37, tabObj #[]), (30, tabObj #[])]) X T k0 ?_ ?_ (by k_is) (by k_is) (by show dp < _; exact room0 hroom) (BindsTo.of_eq rfl) rfl (by decide +kernel) ?_ rfl rfl rfl
  · intro p hp
    rcases List.mem_cons.mp hp with rfl | hp
    · exact hP37
    · rw [List.mem_singleton.mp hp]; exact hP30
  · intro p hp
    rcases List.mem_cons.mp hp with rfl | hp
    · exact hn37
    · rw [List.mem_singleton.mp hp]; exact hn30
  intro g L' h₁ tk cells hg F NN Y X' T' k1 l1
  refine retQ fun Q' E' hQ => ?_
  have C30' := C30.keeps k1
  have C37' := C37.keeps k1
  have hl' : g.IsList lc vc.toArray := by
    obtain ⟨o, ho, hc, r⟩ := hl
    refine ⟨o, ?_, hc, r⟩
    rw [hg]
    refine hideAll_get _ ho ?_
    intro q
    rcases List.mem_cons.mp q with q | q
    · rw [q, hP37] at ho; cases ho; cases hc
    · rw [List.mem_singleton.mp q, hP30] at ho; cases ho; cases hc
  have hlen := hI.length
  k_lt l1
  k_cells Y
  simp only [List.cons_append, List.nil_append] at NN
  clear C30 C37 X T
  have hu := p2pos (W - 10).toNat
  obtain ⟨t0, t1, t2, t3, t4, rfl⟩ := ints5 hI
  k_steps
  show wpAny _ _ _ _ _ _
  rename Obj.data _ = Data.cell (some (Value.int (2 ^ _) _)) => hunit
  rename Fr _ _ _ _ => F0
  rename News _ _ _ _ => N0
  refine compAssignI 5 (fun _ => true) (fun i => [c4, c3, c2, c1, c0].getD i 0 * 2 ^ (W - 10).toNat) F0 N0 rfl rfl (by decide) rfl (by decide) rfl rfl rfl ?_ (by intro _; rfl)
  k_steps
  show wpAny _ _ _ _ _ _
  rename News _ _ _ _ => N2
  rename Fr _ _ _ _ => F2
  rename AllLt _ _ => l2
  refine srcRev (n := 5) rfl F2 N2 (allNeLt l2) (by rfl) (hl'.at fun o e => F2.keep _ _ e) (by rfl) (by decide) (by rfl) ?_ ?_ ?_
  · intro C D gg i v m₁ h tk oI oD E' hi hP hk F N
    exact wpAny_tests_nil ⟨_, _, rfl, Keep.rfl, rfl⟩
  · intro C D gg i v m₁ h tk oI oD E' hi hP _ hk F N
    have hcell := hk _ _ (by k_ne) (N2.get (.tail _ (.head _)))
    have hv : ∃ t, v = .int ([c4, c3, c2, c1, c0].getD i 0) t ∧ intBits ([c4, c3, c2, c1, c0].getD i 0) ≤ 64 := by
      match i, hi with
      | 0, _ => exact ⟨_, (Option.some.inj hP).symm, bits7 h4.1 h4.2⟩
      | 1, _ => exact ⟨_, (Option.some.inj hP).symm, bits7 h3.1 h3.2⟩
      | 2, _ => exact ⟨_, (Option.some.inj hP).symm, bits7 h2.1 h2.2⟩
      | 3, _ => exact ⟨_, (Option.some.inj hP).symm, bits7 h1.1 h1.2⟩
      | 4, _ => exact ⟨_, (Option.some.inj hP).symm, bits7 (Int.le_trans (by decide) h0.1) h0.2⟩
    obtain ⟨t, rfl, hb⟩ := hv
    refine wpAny_BinOp (nameAL F rfl (by rfl) (by rfl) (nameAC F rfl (by rfl) (by rfl) hcell hunit (mul_int ?_ (.of_left hb))))
    exact ⟨_, _, _, rfl, Keep.rfl, rfl⟩
  · intro D vs ep h' tk F3 N3 l3 hI3
    generalize hU : (2 : Int) ^ (W - 10).toNat = U at hI3
    have hI4 : IntsAre vs [c4 * U, c3 * U, c2 * U, c1 * U, c0 * U] := hI3
    obtain ⟨hB, hU'⟩ := pow10 hW
    rw [hU] at hB hU'
    have hU0 : 0 ≤ U := Int.le_trans (by decide) hU'
    have hW0 : 0 < W := Int.lt_of_lt_of_le (by decide) hW
    have hW8 : W < 8000 := Int.lt_trans hW' (by decide)
    have hW2 : 2 ≤ W := Int.le_trans (by decide) hW
    have hW9 : W < 7998 := Int.lt_trans hW' (by decide)
    have m0 := mulB (c := c0) (U := U) (Int.le_trans (by decide) h0.1) h0.2 hU0
    have m1 := mulB (c := c1) (U := U) h1.1 h1.2 hU0
    have m2 := mulB (c := c2) (U := U) h2.1 h2.2 hU0
    have m3 := mulB (c := c3) (U := U) h3.1 h3.2 hU0
    have m4 := mulB (c := c4) (U := U) h4.1 h4.2 hU0
    have m0' : U ≤ c0 * U := by have := Int.mul_le_mul_of_nonneg_right (c := U) h0.1 hU0; rwa [Int.one_mul] at this
    obtain ⟨b1, b2, b3, b4, b5, b6⟩ := bnd_math hB hU' ⟨m0', m0.2⟩ m1 m2 m3 m4
    have hr5 : ∀ d ∈ [c4 * U, c3 * U, c2 * U, c1 * U, c0 * U], 0 ≤ d ∧ d < 2 ^ W.toNat := by
      simp only [List.mem_cons, List.not_mem_nil, or_false]; rintro d (rfl | rfl | rfl | rfl | rfl)
      · exact ⟨m4.1, fB hB hU' m4.2⟩
      · exact ⟨m3.1, fB hB hU' m3.2⟩
      · exact ⟨m2.1, fB hB hU' m2.2⟩
      · exact ⟨m1.1, fB hB hU' m1.2⟩
      · exact ⟨m0.1, fB hB hU' m0.2⟩
    have hdd := digs_dval (B := 2 ^ W.toNat) (p2pos _) (fun d hd => (hr5 d hd).1) fun d hd => (hr5 d hd).2
    generalize hX : dval (2 ^ W.toNat) [c4 * U, c3 * U, c2 * U, c1 * U, c0 * U] = X at *
    generalize hY : dval (2 ^ W.toNat) [c0 * U + c1 * U + c2 * U + c3 * U, c0 * U + c1 * U + c2 * U, c0 * U + c1 * U, c0 * U] = Y at *
    k_steps
    refine c_d2iF (by k_asm) (by k_asm) X' T' C37' (by k_updF) (by show dp + 7 < _; exact roomK hroom (by decide)) (isListNews (by k_asm) (by k_mem)) hI4 (by first | (with_reducible assumption) | decide | omega) (by first | (with_reducible assumption) | decide | omega) (by show 1 ≤ 5; decide) (by show 5 ≤ 100; decide) (fun d hd => (hr5 d hd).1) (fun d hd => (hr5 d hd).2) ?_
    rw [hX]
    intro t h5 tk5 c' oc ws tt F5 N5 l5 hoc hws
    k_steps
    refine c_i2dF (N := 5) (by k_asm) (by k_asm) X' T' C30' (by k_updF) (by show dp + 7 < _; exact roomK hroom (by decide)) (by first | (with_reducible assumption) | decide | omega) (by first | (with_reducible assumption) | decide | omega) (by first | (with_reducible assumption) | decide | omega) (by first | (with_reducible assumption) | decide | omega) (by show 2 ^ (W.toNat * 4) ≤ X; rw [mulpow]; omega) (by rw [mulpow]; omega) ?_
    intro l6 vs6 ep6 h6 tk6 c6 oc6 ws6 tt6 F6 N6 l6a l6b l6c hoc6 hws6 hI6
    have hI6' : IntsAre vs6 [c4 * U, c3 * U, c2 * U, c1 * U, c0 * U] := by
      have e : digs (2 ^ W.toNat) X 5 = [c4 * U, c3 * U, c2 * U, c1 * U, c0 * U] := hdd
      rw [← e]; exact hI6
    k_steps
    show wpAny _ _ _ _ _ _
    refine ne_intsK (isListNews N6 (by k_mem)) hI6' (isListNews N6 (by k_mem)) hI4 (by show un + 67 < _; exact roomK hun (by decide)) ?_
    replace N6 := newsDrop1 N6
    rw [decide_eq_true rfl]
    have ne1 : @Ne Nat c' 37 := by k_ne
    have ne2 : @Ne Nat c6 30 := by k_ne
    have hbits : (intBits (2 ^ W.toNat - 1) : Int) = W := by rw [bits_ones (by first | (with_reducible assumption) | decide | omega)]; omega
    have GG := fun (h : Heap) (m : Str → Option Value) (news : List (Addr × Obj)) => G2.ofNews (h := h) (m := m) (news := news) (L := L') X' T' C30' C37' hoc hws hoc6 hws6 ne1 ne2
    have hR0 : 0 < c0 * U + c1 * U + c2 * U + c3 * U + c4 * U := sum5 hU' m0' m1.1 m2.1 m3.1 m4.1
    have hBp : (0 : Int) < 2 ^ W.toNat - 1 := Bm1 hB hU'
    obtain ⟨d1, d2⟩ := divNeg hBp b3 b4 hR0
    have a4 : (2 : Int) ^ (W.toNat * 4) + 1 ≤ X := by rw [mulpow]; exact b1
    have a5 : X < (2 : Int) ^ (W.toNat * 5) := by rw [mulpow]; exact b2
    have hX0 : 0 < X := by have := p2pos (W.toNat * 4); omega
    have a3 : (2 : Int) ^ (W.toNat * 3) ≤ Y := by rw [mulpow]; exact b5
    have a6 : Y < (2 : Int) ^ (W.toNat * 4) := by rw [mulpow]; exact b6
    have hr4 : ∀ d ∈ [c0 * U + c1 * U + c2 * U + c3 * U, c0 * U + c1 * U + c2 * U, c0 * U + c1 * U, c0 * U], 0 ≤ d ∧ d < 2 ^ W.toNat := by
      simp only [List.mem_cons, List.not_mem_nil, or_false]; rintro d (rfl | rfl | rfl | rfl)
      · exact fB4 hB hU' m0 m1 m2 m3
      · exact fB3 hB hU' m0 m1 m2
      · exact fB2 hB hU' m0 m1
      · exact ⟨m0.1, fB hB hU' m0.2⟩
    have hdy := digs_dval (B := 2 ^ W.toNat) (p2pos _) (fun d hd => (hr4 d hd).1) fun d hd => (hr4 d hd).2
    rw [hY] at hdy
    generalize hRR : c0 * U + c1 * U + c2 * U + c3 * U + c4 * U = R at *
    k_steps
    refine c_idmP (N := 5) (by k_asm) (by k_asm) (GG _ _ _ (by k_asm) (by k_asm) (by k_mem) (by k_mem) (by k_mem) (by k_mem)) (by show dp + 12 < _; exact roomK hroom (by decide)) hbits (by first | (with_reducible assumption) | decide | omega) (by first | (with_reducible assumption) | decide | omega) hBp (by first | (with_reducible assumption) | decide | omega) (by first | (with_reducible assumption) | decide | omega) (by show 2 ^ (W.toNat * 4) ≤ X; omega) a5 ?_
    rw [b3, b4]
    intro t7 tq7 tr7 h7 tk7 F7 N7 l7
    k_steps
    rename News _ _ _ _ => NX
    replace NX := newsDrop1 NX
    refine c_idmN (N := 5) (by k_asm) (by k_asm) (GG _ _ _ (by k_asm) (by k_asm) (by k_mem) (by k_mem) (by k_mem) (by k_mem)) (by show dp + 13 < _; exact roomK hroom (by decide)) hbits (by first | (with_reducible assumption) | decide | omega) (by first | (with_reducible assumption) | decide | omega) hBp (by first | (with_reducible assumption) | decide | omega) (by first | (with_reducible assumption) | decide | omega) (by first | (with_reducible assumption) | decide | omega) (by show 2 ^ (W.toNat * 4) ≤ _; omega) (by first | (with_reducible assumption) | decide | omega) ?_
    rw [d1, d2]
    intro t8 tq8 tr8 h8 tk8 F8 N8 l8
    k_steps
    show wpAny _ _ _ _ _ _
    refine neTup2 (by k_asm) (by k_mem) (by k_mem) (by show un + 67 < _; exact roomK hun (by decide)) rfl rfl ?_
    rename News _ _ _ _ => NX
    replace NX := newsDrop2 NX
    k_steps
    refine c_idmBN (N := 5) (by k_asm) (by k_asm) (GG _ _ _ (by k_asm) (by k_asm) (by k_mem) (by k_mem) (by k_mem) (by k_mem)) (by show dp + 14 < _; exact roomK hroom (by decide)) hbits (by first | (with_reducible assumption) | decide | omega) (by first | (with_reducible assumption) | decide | omega) hBp (by first | (with_reducible assumption) | decide | omega) (by first | (with_reducible assumption) | decide | omega) (by first | (with_reducible assumption) | decide | omega) (by show 2 ^ (W.toNat * 4) ≤ _; omega) (by first | (with_reducible assumption) | decide | omega) ?_
    rw [d1, d2]
    intro t9 tq9 tr9 h9 tk9 F9 N9 l9
    k_steps
    show wpAny _ _ _ _ _ _
    refine neTup2 (by k_asm) (by k_mem) (by k_mem) (by show un + 67 < _; exact roomK hun (by decide)) rfl (by first | (with_reducible assumption) | decide | omega) ?_
    rename News _ _ _ _ => NX
    replace NX := newsDrop2 NX
    k_steps
    refine c_idmBP (N := 5) (by k_asm) (by k_asm) (GG _ _ _ (by k_asm) (by k_asm) (by k_mem) (by k_mem) (by k_mem) (by k_mem)) (by show dp + 13 < _; exact roomK hroom (by decide)) hbits (by first | (with_reducible assumption) | decide | omega) (by first | (with_reducible assumption) | decide | omega) hBp (by first | (with_reducible assumption) | decide | omega) (by first | (with_reducible assumption) | decide | omega) (by show 2 ^ (W.toNat * 4) ≤ _; omega) (by first | (with_reducible assumption) | decide | omega) ?_
    rw [Int.neg_neg, b3, b4]
    intro t10 tq10 tr10 h10 tk10 F10 N10 l10
    k_steps
    show wpAny _ _ _ _ _ _
    refine neTup2 (by k_asm) (by k_mem) (by k_mem) (by show un + 67 < _; exact roomK hun (by decide)) rfl rfl ?_
    rename News _ _ _ _ => NX
    replace NX := newsDrop2 NX
    k_steps
    refine c_i2d (N := 4) (by k_asm) (by k_asm) (GG _ _ _ (by k_asm) (by k_asm) (by k_mem) (by k_mem) (by k_mem) (by k_mem)) (by show dp + 6 < _; exact roomK hroom (by decide)) (by first | (with_reducible assumption) | decide | omega) (by first | (with_reducible assumption) | decide | omega) (by first | (with_reducible assumption) | decide | omega) (by first | (with_reducible assumption) | decide | omega) (by show 2 ^ (W.toNat * 3) ≤ Y; exact a3) a6 ?_
    intro l11 vs11 ep11 h11 tk11 F11 N11 l11a hI11
    have hI12 : IntsAre vs11 [c0 * U + c1 * U + c2 * U + c3 * U, c0 * U + c1 * U + c2 * U, c0 * U + c1 * U, c0 * U] := by
      have e : digs (2 ^ W.toNat) Y 4 = _ := hdy
      rw [← e]; exact hI11
    obtain ⟨v1, v2, v3, v4, rfl⟩ := ints4 hI12
    k_steps
    rename News _ _ _ _ => N12
    rename Fr _ _ _ _ => F12
    rename AllLt _ _ => l12
    refine listRevN (vs := [_, _, _, _]) rfl F12 N12 (allNeLt l12) (by rfl) (isListNews N12 (by k_mem)) (by show 4 ≤ sizeLine; decide) ?_
    intro D13 c13 h13 tk13 F13 N13 l13
    k_lt l13
    simp only [List.reverse_cons, List.reverse_nil, List.nil_append, List.cons_append] at N13
    k_steps
    rename News _ _ _ _ => N14
    rename Fr _ _ _ _ => F14
    subst hg
    refine hQ _ _ (ret _ [.int (c0 * U) _, .int (c0 * U + c1 * U) _, .int (c0 * U + c1 * U + c2 * U) _, .int (c0 * U + c1 * U + c2 * U + c3 * U) _, .int R _] _ _ _ ?_ ?_ (N14.get (by k_mem)) ?_ ⟨_, N14.get (show (37, tabObj _) ∈ _ by k_mem)⟩ ⟨_, N14.get (show (30, tabObj _) ∈ _ by k_mem)⟩)
    · intro b o hb0 hb7 e
      exact F14.keep b o (hideAll_get _ e (by simp [hb0, hb7]))
    · have q := N14.fresh (.head _)
      refine freshHide2 q ?_ ?_ <;> k_ne
    · rw [← hRR, hU]
      exact .cons _ _ (.cons _ _ (.cons _ _ (.cons _ _ (.cons _ _ .nil))))
end
end Mine
end
namespace Mine
theorem turn10 {M : PySem.Model} {A : PySem.Around} {E : PySem.Value → PySem.Shared → Prop} {s : PySem.Shared} {env : PySem.Env} {Q : PySem.Flow → PySem.Shared → Prop} (h : Q .next s) : PySem.wpAny M A (PySem.execs [] env) Q E s := by
  w_top off
  walk1
  exact h
end Mine
section
open PySem PySem.W PyProof.Rows
set_option maxRecDepth 100000
set_option maxHeartbeats 8000000
namespace Mine
open Builtin.Int (intBits)
local macro_rules
  | `(tactic| walk_at "exec While") => `(tactic| kfm_turns)
  | `(tactic| walk_at "eval Name") => `(tactic| kpt_turns)
/-- what a search has found so far, below and above -/
def LowR (ns : List Int) (x lo a : Int) : Prop := a = lo ∨ ns.getD (a - 1).toNat 0 ≤ x
def HighR (ns : List Int) (x hi a : Int) : Prop := a = hi ∨ x < ns.getD a.toNat 0
def LowL (ns : List Int) (x lo a : Int) : Prop := a = lo ∨ ns.getD (a - 1).toNat 0 < x
def HighL (ns : List Int) (x hi a : Int) : Prop := a = hi ∨ x ≤ ns.getD a.toNat 0
/-- where a search may end -/
def BisR (ns : List Int) (x lo hi r : Int) : Prop := lo ≤ r ∧ (r ≤ hi ∨ r = lo) ∧ (r = lo ∨ ns.getD (r - 1).toNat 0 ≤ x) ∧ (hi ≤ r ∨ x < ns.getD r.toNat 0)
def BisL (ns : List Int) (x lo hi r : Int) : Prop := lo ≤ r ∧ (r ≤ hi ∨ r = lo) ∧ (r = lo ∨ ns.getD (r - 1).toNat 0 < x) ∧ (hi ≤ r ∨ x ≤ ns.getD r.toNat 0)
/-- the forms in which a search is called -/
inductive BisF (l : Addr) (x lo hi len : Int) (tx tl d : Tok) (vals : List Value) (hv : Value) : Prop
  | two (a : vals = [.ref l, .int x tx]) (b : lo = 0) (c : tl = d) (e : hv = .none) (f : hi = len)
  | three (a : vals = [.ref l, .int x tx, .int lo tl]) (e : hv = .none) (f : hi = len)
  | four (th : Tok) (a : vals = [.ref l, .int x tx, .int lo tl, .int hi th]) (e : hv = .int hi th)
/-- ahead of a search's loop -/
inductive BisAt (s : Shared) (L : Addr) (l : Addr) (x lo hi : Int) (tx : Tok) (s' : Shared) : Prop
  | mk (h : Heap) (tk : Tok) (t1 t2 : Tok) (m : Str → Option Value) (e : s' = { s with heap := h, toks := tk }) (F : Fr s.heap L h m) (a1 : m "a" = some (.ref l)) (a2 : m "x" = some (.int x tx)) (a3 : m "lo" = some (.int lo t1)) (a4 : m "hi" = some (.int hi t2)) (a5 : m "key" = some .none)
/-- between the turns of a search's loop -/
inductive BisI (lowP highP : Int → Prop) (s : Shared) (L : Addr) (l : Addr) (x lo hi : Int) (tx : Tok) (k : Nat) (s' : Shared) : Prop
  | mk (h : Heap) (tk : Tok) (lo₁ hi₁ : Int) (t1 t2 : Tok) (m : Str → Option Value) (e : s' = { s with heap := h, toks := tk }) (F : Fr s.heap L h m) (a1 : m "a" = some (.ref l)) (a2 : m "x" = some (.int x tx)) (a3 : m "lo" = some (.int lo₁ t1)) (a4 : m "hi" = some (.int hi₁ t2)) (b1 : lo ≤ lo₁) (b2 : hi₁ ≤ hi) (b3 : lo₁ ≤ hi₁ ∨ (lo₁ = lo ∧ hi₁ = hi)) (b4 : lowP lo₁) (b5 : highP hi₁) (kk : k = (hi₁ - lo₁).toNat)
theorem midlt {lo hi a b : Int} (h : lo < hi) (l : a ≤ lo) (m : hi ≤ b) : a ≤ (lo + hi) / 2 ∧ lo ≤ (lo + hi) / 2 ∧ (lo + hi) / 2 < hi ∧ (lo + hi) / 2 ≤ b := by omega
theorem turnDn {lo hi : Int} (h : lo < hi) : ((lo + hi) / 2 - lo).toNat < (hi - lo).toNat := by omega
theorem turnUp {lo hi : Int} (h : lo < hi) : (hi - ((lo + hi) / 2 + 1)).toNat < (hi - lo).toNat := by omega
theorem searchEnd {A B : Int → Prop} {lo hi lo₁ hi₁ : Int} (h : ¬ lo₁ < hi₁) (b1 : lo ≤ lo₁) (b2 : hi₁ ≤ hi) (b3 : lo₁ ≤ hi₁ ∨ (lo₁ = lo ∧ hi₁ = hi)) (b4 : lo₁ = lo ∨ A lo₁) (b5 : hi₁ = hi ∨ B hi₁) : lo ≤ lo₁ ∧ (lo₁ ≤ hi ∨ lo₁ = lo) ∧ (lo₁ = lo ∨ A lo₁) ∧ (hi ≤ lo₁ ∨ B lo₁) := by
  have h := Int.not_lt.mp h
  refine ⟨b1, b3.imp (fun q => Int.le_trans q b2) And.left, b4, ?_⟩
  rcases b5 with rfl | b5
  · exact .inl h
  · rcases b3 with q | ⟨_, rfl⟩
    · exact .inr (Int.le_antisymm h q ▸ b5)
    · exact .inl h
section
variable {prog : Program} {w : World} {A : Around} {E : Value → Shared → Prop} {s : Shared}
/-- a loop's turn, what stands behind it held apart -/
theorem whileQ {test body orelse env pos} {Q : Flow → Shared → Prop} (I : Nat → Shared → Prop) (n : Nat) (h : I n s)
    (turn : ∀ n s, I n s → ∀ (Qn : Flow → Shared → Prop) (En : Value → Shared → Prop) (Qe : Flow → Shared → Prop), (∀ s' m, m < n → I m s' → Qn .next s') → (∀ s', Q .next s' → Qn .brk s') → (∀ v s', Q (.ret v) s' → Qn (.ret v) s') → (∀ f s', Q f s' → Qe f s') →
      wpAny (model prog w) A (isTrue test env (eval test env)) (fun b s₂ => if b then wpAny (model prog w) A (execs body env) Qn En s₂ else wpAny (model prog w) A (execs orelse env) Qe En s₂) En s) :
    wpAny (model prog w) A (exec (.While test body orelse pos) env) Q E s := by
  refine whileH I n h fun n s hI => ?_
  exact turn n s hI _ _ _ (fun s' m a b => ⟨m, a, b⟩) (fun s' q => q) (fun v s' q => q) (fun f s' q => q)
end
section
variable {prog : Program} {w : World} {dp un : Nat} {fr : Option (List Env)} {gd : Option (List Code)} {s : Shared} {p : Program} {loose : List Str} {mean : ExcName → Option Value} {mg mb : Str → Option Value} {Q : Value → Shared → Prop} {E : Value → Shared → Prop}
  {h₀ : Heap}
theorem lenBase {A : Around} {L l : Addr} {m : Str → Option Value} {vs : List Value} {ns : List Int} (F : Fr h₀ L s.heap m) (hl : h₀.IsList l vs.toArray) (hI : vs.length = ns.length) (hn : ns.length ≤ 1000) (h : Q (.int (ns.length : Int) (s.toks + 1)) { s with toks := s.toks + 1 + 1 }) : wpAny (model prog w) A (call (.builtin "len") [.ref l]) Q E s :=
  PySem.Calls.call_len_list (hl.at fun o e => F.keep _ _ e) (by rw [List.size_toArray, hI]; omega) (by rw [List.size_toArray, hI]; exact h)
local macro_rules | `(tactic| walk_at "call builtin:len") => `(tactic| (refine lenBase (by k_asm) (by assumption) (by assumption) (by assumption) ?_; try dsimp only))
theorem c_bisR {l : Addr} {vs : List Value} {ns : List Int} {x lo hi : Int} {tx tl : Tok} {vals : List Value} {hv : Value} (X : (Mine.K w.params).In s.heap) (T : Top p loose mean mg mb s.heap) (hroom : dp + 1 < recursionLimit) (hl : s.heap.IsList l vs.toArray) (hI : IntsAre vs ns) (hn : ns.length ≤ 1000) (hlo : 0 ≤ lo) (hhi : hi ≤ ns.length)
   (form : BisF l x lo hi (ns.length : Int) tx tl 271 vals hv)
   (ret : ∀ r t h' tk', Keep s.heap h' → BisR ns x lo hi r → Q (.int r t) { s with heap := h', toks := tk' }) :
   wpAny (model prog w) (AR dp un fr gd) (call (.ref 65) vals) Q E s := by
  w_top off
  have hlen := hI.length
  refine enter (binds := [("a", .ref l), ("x", .int x tx), ("lo", .int lo tl), ("hi", hv), ("key", .none)]) X T (by k_is) (by k_is) (by show dp < _; exact room0 hroom) ?hb (locs rfl) ?_ rfl rfl rfl (by decide)
  case hb =>
    rcases form with ⟨rfl, rfl, rfl, rfl, _⟩ | ⟨rfl, rfl, _⟩ | ⟨_, rfl, rfl⟩
    · exact kp_binds X (fun _ => rfl)
    · exact kp_binds X (fun _ => rfl)
    · exact kp_binds X (fun _ => rfl)
  intro L' h₁ F N
  refine retQ fun Q' E' hQ => ?_
  refine wpAny_execs_cons (cut (fun s' => ∃ tk, s' = { s with heap := h₁, toks := tk }) ?_ ?_)
  · k_steps
    exact ⟨rfl, _, rfl⟩
  rintro _ ⟨tk, rfl⟩
  refine wpAny_execs_cons (cut (BisAt s L' l x lo hi tx) ?_ ?_)
  · rcases form with ⟨_, rfl, _, rfl, rfl⟩ | ⟨_, rfl, rfl⟩ | ⟨_, _, rfl⟩
    · k_steps
      rename Fr _ _ _ _ => F'
      exact ⟨rfl, _, _, _, _, _, rfl, F', by rfl, by rfl, by rfl, by rfl, by rfl⟩
    · k_steps
      rename Fr _ _ _ _ => F'
      exact ⟨rfl, _, _, _, _, _, rfl, F', by rfl, by rfl, by rfl, by rfl, by rfl⟩
    · k_steps
      exact ⟨rfl, _, _, _, _, _, rfl, F, by rfl, by rfl, by rfl, by rfl, by rfl⟩
  clear form F
  rintro _ ⟨h, tk, t1, t2, m, rfl, F', a1, a2, a3, a4, a5⟩
  dsimp only
  k_steps
  show wpAny _ _ _ _ _ _
  refine whileQ (BisI (LowR ns x lo) (HighR ns x hi) s L' l x lo hi tx) _ ⟨_, _, lo, hi, _, _, _, rfl, F', a1, a2, a3, a4, Int.le_refl _, Int.le_refl _, .inr ⟨rfl, rfl⟩, .inl rfl, .inl rfl, rfl⟩ ?_
  clear F' a1 a2 a3 a4 a5
  rintro k s' ⟨h, tk, lo₁, hi₁, t1, t2, m, rfl, F, a1, a2, a3, a4, b1, b2, b3, b4, b5, rfl⟩ Qn En Qe hN hB hR hX
  have N : News s.heap L' h [] := News.nil
  have hmid : (lo₁ + hi₁).fdiv 2 = (lo₁ + hi₁) / 2 := Int.fdiv_eq_ediv_of_nonneg _ (by decide)
  k_steps
  · rename x < ns.getD ((lo₁ + hi₁).fdiv 2).toNat 0 => hx
    rename lo₁ < hi₁ => hlt
    rename Fr _ _ _ _ => F6
    rw [hmid] at hx
    have hm := midlt hlt b1 b2
    refine hN _ _ (turnDn hlt) ⟨_, _, lo₁, (lo₁ + hi₁).fdiv 2, _, _, _, rfl, F6, a1, a2, a3, rfl, b1, ?_, .inl ?_, b4, ?_, ?_⟩
    · rw [hmid]; exact hm.2.2.2
    · rw [hmid]; exact hm.2.1
    · rw [hmid]; exact .inr hx
    · rw [hmid]
  · rename ¬ (x < ns.getD ((lo₁ + hi₁).fdiv 2).toNat 0) => hx
    rename lo₁ < hi₁ => hlt
    rename Fr _ _ _ _ => F6
    rw [hmid] at hx
    have hm := midlt hlt b1 b2
    refine hN _ _ (turnUp hlt) ⟨_, _, (lo₁ + hi₁).fdiv 2 + 1, hi₁, _, _, _, rfl, F6, a1, a2, rfl, a4, ?_, b2, .inl ?_, ?_, b5, ?_⟩
    · rw [hmid]; exact Int.le_trans hm.1 (Int.le_of_lt (Int.lt_succ _))
    · rw [hmid]; exact hm.2.2.1
    · rw [hmid]; refine .inr ?_; rw [show ((lo₁ + hi₁) / 2 + 1 - 1) = (lo₁ + hi₁) / 2 from Int.add_sub_cancel _ _]; exact (Int.not_lt.mp hx)
    · rw [hmid]
  · rename ¬ (lo₁ < hi₁) => hlt
    refine hX _ _ ?_
    k_steps
    exact hQ _ _ (ret _ _ _ _ F.keep (searchEnd (A := fun a => ns.getD (a - 1).toNat 0 ≤ x) (B := fun a => x < ns.getD a.toNat 0) hlt b1 b2 b3 b4 b5))
theorem c_bisR20 {l : Addr} {vs : List Value} {ns : List Int} {x : Int} {tx : Tok} (X : (Mine.K w.params).In s.heap) (T : Top p loose mean mg mb s.heap) (hroom : dp + 1 < recursionLimit) (hl : s.heap.IsList l vs.toArray) (hI : IntsAre vs ns) (hn : ns.length ≤ 1000)
   (ret : ∀ r t h' tk', Keep s.heap h' → BisR ns x 0 (ns.length : Int) r → Q (.int r t) { s with heap := h', toks := tk' }) :
   wpAny (model prog w) (AR dp un fr gd) (call (.ref 65) [.ref l, .int x tx]) Q E s :=
  c_bisR X T hroom hl hI hn (Int.le_refl _) (Int.le_refl _) (.two rfl rfl rfl rfl rfl) ret
theorem c_bisR30 {l : Addr} {vs : List Value} {ns : List Int} {x lo : Int} {tx tl : Tok} (X : (Mine.K w.params).In s.heap) (T : Top p loose mean mg mb s.heap) (hroom : dp + 1 < recursionLimit) (hl : s.heap.IsList l vs.toArray) (hI : IntsAre vs ns) (hn : ns.length ≤ 1000) (hlo : 0 ≤ lo)
   (ret : ∀ r t h' tk', Keep s.heap h' → BisR ns x lo (ns.length : Int) r → Q (.int r t) { s with heap := h', toks := tk' }) :
   wpAny (model prog w) (AR dp un fr gd) (call (.ref 65) [.ref l, .int x tx, .int lo tl]) Q E s :=
  c_bisR X T hroom hl hI hn hlo (Int.le_refl _) (.three rfl rfl rfl) ret
theorem c_bisR40 {l : Addr} {vs : List Value} {ns : List Int} {x lo hi : Int} {tx tl th : Tok} (X : (Mine.K w.params).In s.heap) (T : Top p loose mean mg mb s.heap) (hroom : dp + 1 < recursionLimit) (hl : s.heap.IsList l vs.toArray) (hI : IntsAre vs ns) (hn : ns.length ≤ 1000) (hlo : 0 ≤ lo) (hhi : hi ≤ ns.length)
   (ret : ∀ r t h' tk', Keep s.heap h' → BisR ns x lo hi r → Q (.int r t) { s with heap := h', toks := tk' }) :
   wpAny (model prog w) (AR dp un fr gd) (call (.ref 65) [.ref l, .int x tx, .int lo tl, .int hi th]) Q E s :=
  c_bisR X T hroom hl hI hn hlo hhi (.four _ rfl rfl) ret
theorem c_bisL {l : Addr} {vs : List Value} {ns : List Int} {x lo hi : Int} {tx tl : Tok} {vals : List Value} {hv : Value} (X : (Mine.K w.params).In s.heap) (T : Top p loose mean mg mb s.heap) (hroom : dp + 1 < recursionLimit) (hl : s.heap.IsList l vs.toArray) (hI : IntsAre vs ns) (hn : ns.length ≤ 1000) (hlo : 0 ≤ lo) (hhi : hi ≤ ns.length)
   (form : BisF l x lo hi (ns.length : Int) tx tl 285 vals hv)
   (ret : ∀ r t h' tk', Keep s.heap h' → BisL ns x lo hi r → Q (.int r t) { s with heap := h', toks := tk' }) :
   wpAny (model prog w) (AR dp un fr gd) (call (.ref 74) vals) Q E s := by
  have hlen := hI.length
  refine enter (binds := [("a", .ref l), ("x", .int x tx), ("lo", .int lo tl), ("hi", hv), ("key", .none)]) X T (by k_is) (by k_is) (by show dp < _; exact room0 hroom) ?hb (locs rfl) ?_ rfl rfl rfl (by decide)
  case hb =>
    rcases form with ⟨rfl, rfl, rfl, rfl, _⟩ | ⟨rfl, rfl, _⟩ | ⟨_, rfl, rfl⟩
    · exact kp_binds X (fun _ => rfl)
    · exact kp_binds X (fun _ => rfl)
    · exact kp_binds X (fun _ => rfl)
  intro L' h₁ F N
  refine retQ fun Q' E' hQ => ?_
  refine wpAny_execs_cons (cut (fun s' => ∃ tk, s' = { s with heap := h₁, toks := tk }) ?_ ?_)
  · k_steps
    exact ⟨rfl, _, rfl⟩
  rintro _ ⟨tk, rfl⟩
  refine wpAny_execs_cons (cut (BisAt s L' l x lo hi tx) ?_ ?_)
  · rcases form with ⟨_, rfl, _, rfl, rfl⟩ | ⟨_, rfl, rfl⟩ | ⟨_, _, rfl⟩
    · k_steps
      rename Fr _ _ _ _ => F'
      exact ⟨rfl, _, _, _, _, _, rfl, F', by rfl, by rfl, by rfl, by rfl, by rfl⟩
    · k_steps
      rename Fr _ _ _ _ => F'
      exact ⟨rfl, _, _, _, _, _, rfl, F', by rfl, by rfl, by rfl, by rfl, by rfl⟩
    · k_steps
      exact ⟨rfl, _, _, _, _, _, rfl, F, by rfl, by rfl, by rfl, by rfl, by rfl⟩
  clear form F
  rintro _ ⟨h, tk, t1, t2, m, rfl, F', a1, a2, a3, a4, a5⟩
  dsimp only
  k_steps
  show wpAny _ _ _ _ _ _
  refine whileQ (BisI (LowL ns x lo) (HighL ns x hi) s L' l x lo hi tx) _ ⟨_, _, lo, hi, _, _, _, rfl, F', a1, a2, a3, a4, Int.le_refl _, Int.le_refl _, .inr ⟨rfl, rfl⟩, .inl rfl, .inl rfl, rfl⟩ ?_
  clear F' a1 a2 a3 a4 a5
  rintro k s' ⟨h, tk, lo₁, hi₁, t1, t2, m, rfl, F, a1, a2, a3, a4, b1, b2, b3, b4, b5, rfl⟩ Qn En Qe hN hB hR hX
  have N : News s.heap L' h [] := News.nil
  have hmid : (lo₁ + hi₁).fdiv 2 = (lo₁ + hi₁) / 2 := Int.fdiv_eq_ediv_of_nonneg _ (by decide)
  k_steps
  · rename ns.getD ((lo₁ + hi₁).fdiv 2).toNat 0 < x => hx
    rename lo₁ < hi₁ => hlt
    rename Fr _ _ _ _ => F6
    rw [hmid] at hx
    have hm := midlt hlt b1 b2
    refine hN _ _ (turnUp hlt) ⟨_, _, (lo₁ + hi₁).fdiv 2 + 1, hi₁, _, _, _, rfl, F6, a1, a2, rfl, a4, ?_, b2, .inl ?_, ?_, b5, ?_⟩
    · rw [hmid]; exact Int.le_trans hm.1 (Int.le_of_lt (Int.lt_succ _))
    · rw [hmid]; exact hm.2.2.1
    · rw [hmid]; refine .inr ?_; rw [show ((lo₁ + hi₁) / 2 + 1 - 1) = (lo₁ + hi₁) / 2 from Int.add_sub_cancel _ _]; exact hx
    · rw [hmid]
  · rename ¬ (ns.getD ((lo₁ + hi₁).fdiv 2).toNat 0 < x) => hx
    rename lo₁ < hi₁ => hlt
    rename Fr _ _ _ _ => F6
    rw [hmid] at hx
    have hm := midlt hlt b1 b2
    refine hN _ _ (turnDn hlt) ⟨_, _, lo₁, (lo₁ + hi₁).fdiv 2, _, _, _, rfl, F6, a1, a2, a3, rfl, b1, ?_, .inl ?_, b4, ?_, ?_⟩
    · rw [hmid]; exact hm.2.2.2
    · rw [hmid]; exact hm.2.1
    · rw [hmid]; exact .inr (Int.not_lt.mp hx)
    · rw [hmid]
  · rename ¬ (lo₁ < hi₁) => hlt
    refine hX _ _ ?_
    k_steps
    exact hQ _ _ (ret _ _ _ _ F.keep (searchEnd (A := fun a => ns.getD (a - 1).toNat 0 < x) (B := fun a => x ≤ ns.getD a.toNat 0) hlt b1 b2 b3 b4 b5))
theorem c_bisL20 {l : Addr} {vs : List Value} {ns : List Int} {x : Int} {tx : Tok} (X : (Mine.K w.params).In s.heap) (T : Top p loose mean mg mb s.heap) (hroom : dp + 1 < recursionLimit) (hl : s.heap.IsList l vs.toArray) (hI : IntsAre vs ns) (hn : ns.length ≤ 1000)
   (ret : ∀ r t h' tk', Keep s.heap h' → BisL ns x 0 (ns.length : Int) r → Q (.int r t) { s with heap := h', toks := tk' }) :
   wpAny (model prog w) (AR dp un fr gd) (call (.ref 74) [.ref l, .int x tx]) Q E s :=
  c_bisL X T hroom hl hI hn (Int.le_refl _) (Int.le_refl _) (.two rfl rfl rfl rfl rfl) ret
theorem c_bisL30 {l : Addr} {vs : List Value} {ns : List Int} {x lo : Int} {tx tl : Tok} (X : (Mine.K w.params).In s.heap) (T : Top p loose mean mg mb s.heap) (hroom : dp + 1 < recursionLimit) (hl : s.heap.IsList l vs.toArray) (hI : IntsAre vs ns) (hn : ns.length ≤ 1000) (hlo : 0 ≤ lo)
   (ret : ∀ r t h' tk', Keep s.heap h' → BisL ns x lo (ns.length : Int) r → Q (.int r t) { s with heap := h', toks := tk' }) :
   wpAny (model prog w) (AR dp un fr gd) (call (.ref 74) [.ref l, .int x tx, .int lo tl]) Q E s :=
  c_bisL X T hroom hl hI hn hlo (Int.le_refl _) (.three rfl rfl rfl) ret
theorem c_bisL40 {l : Addr} {vs : List Value} {ns : List Int} {x lo hi : Int} {tx tl th : Tok} (X : (Mine.K w.params).In s.heap) (T : Top p loose mean mg mb s.heap) (hroom : dp + 1 < recursionLimit) (hl : s.heap.IsList l vs.toArray) (hI : IntsAre vs ns) (hn : ns.length ≤ 1000) (hlo : 0 ≤ lo) (hhi : hi ≤ ns.length)
   (ret : ∀ r t h' tk', Keep s.heap h' → BisL ns x lo hi r → Q (.int r t) { s with heap := h', toks := tk' }) :
   wpAny (model prog w) (AR dp un fr gd) (call (.ref 74) [.ref l, .int x tx, .int lo tl, .int hi th]) Q E s :=
  c_bisL X T hroom hl hI hn hlo hhi (.four _ rfl rfl) ret
end
end Mine
end
namespace Mine
theorem turn11 {M : PySem.Model} {A : PySem.Around} {E : PySem.Value → PySem.Shared → Prop} {s : PySem.Shared} {env : PySem.Env} {Q : PySem.Flow → PySem.Shared → Prop} (h : Q .next s) : PySem.wpAny M A (PySem.execs [] env) Q E s := by
  w_top off
  walk1
  exact h
end Mine
section
open PySem PySem.W PyProof.Rows
set_option maxRecDepth 100000
set_option maxHeartbeats 8000000
namespace Mine
open Builtin.Int (intBits)
section
variable {prog : Program} {w : World} {dp un : Nat} {fr : Option (List Env)} {gd : Option (List Code)} {s : Shared} {p : Program} {loose : List Str} {mean : ExcName → Option Value} {mg mb : Str → Option Value} {Q : Value → Shared → Prop} {E : Value → Shared → Prop}
  {h₀ : Heap}
theorem sumK {A : Around} {l : Addr} {vs : List Value} {ns : List Int} (hh : A.handled = none) (hl : s.heap.IsList l vs.toArray) (hi : IntsAre vs ns)
    (h : ∀ h' tk t, Keep s.heap h' → Q (.int ns.sum t) { s with heap := h', toks := tk }) : wpAny (model prog w) A (call (.builtin "sum") [.ref l]) Q E s := by
  have hall := hi.allInts
  obtain ⟨xs, e⟩ := hall.items
  rw [e] at hl
  refine sum_intListG hh hl fun h' tk t' hk => ?_
  have e2 : preSum (numAt xs) xs.size = ns.sum := by
    have q := hi.numsOf
    rw [show vs = vs.toArray.toList from rfl, e, nums_intItems] at q
    rw [preSum_eq, List.take_of_length_le (by simp)]
    exact congrArg List.sum q
  rw [e2]
  exact h h' tk t' hk
/-- a slice of a list, all parts named; two objects come in, all else stays -/
theorem slice3K {A : Around} {value slice : Expr} {l : Addr} {items : Array Value} {vl vu vk : Value} {lo hi st : Option Int} {ops : List Value}
    (hl : s.heap.IsList l items) (pl : IsPart vl lo) (pu : IsPart vu hi) (pk : IsPart vk st) (h0 : st ≠ some 0)
    (h : ∀ D h', Keep s.heap h' → s.heap.get? D = none → h'.get? D = some { cls := .type "list", data := .seq (slicePick items lo hi st) } → Q (.ref D) { s with heap := h' })
    (hs : subscripted slice false (.ref l) (.ref s.heap.objs.size) = operate ops (getItem (.ref l) (.ref s.heap.objs.size)) := by with_unfolding_all rfl)
    (ht : ∀ r, letTemporaryGo value (.ref l) r = pure () := by intro _; with_unfolding_all rfl)
    (hsz : items.size ≤ sizeLine := by size_fits) :
    wpAny (model prog w) A (subscriptTail value slice (.ref l) (.ref s.heap.objs.size)) Q E { s with heap := s.heap.push { cls := .type "slice", data := .fields #[vl, vu, vk] } } := by
  refine subscriptTail_ops (Heap.IsList.typeIs (s := { s with heap := s.heap.push { cls := .type "slice", data := .fields #[vl, vu, vk] } }) (hl.push _)) list_getitem_lookup
    (wpAny_getItem_list_slice (hl.push _) (Heap.IsSliceOf.new ..) pl pu pk h0 ?_ hsz) hs ht
  refine h _ _ (fun b o e => Heap.get?_push_of_some _ (Heap.get?_push_of_some _ e)) ?_ (Heap.get?_push_size _ rfl)
  cases q : s.heap.get? (s.heap.push { cls := .type "slice", data := .fields #[vl, vu, vk] }).objs.size with
  | none => rfl
  | some o => have := Heap.lt_size q; rw [Heap.size_push] at this; exact absurd this (Nat.not_lt.mpr (Nat.le_succ _))
theorem mapRange (ks : List Int) (f : Int → Int) : List.map (fun j => f (ks.getD j 0)) (List.filter (fun _ => true) (List.range ks.length)) = ks.map f := by
  rw [List.filter_eq_self.mpr (fun _ _ => rfl)]
  refine List.ext_getElem (by simp) fun i h1 h2 => ?_
  simp at h1
  simp [h1]
theorem modPos {A : Around} {a b : Int} {t u : Tok} (hb : 0 < b) (h : Q (.int (a % b) s.toks) { s with toks := s.toks + 1 }) : wpAny (model prog w) A (binaryOp .Mod (.int a t) (.int b u)) Q E s :=
  mod_int (by omega) (by rw [Int.fmod_eq_emod_of_nonneg _ (by omega)]; exact h)
theorem freshOf {h h' : Heap} {b : Addr} (k : Keep h h') (q : h'.get? b = none) : h.get? b = none := by
  cases e : h.get? b with
  | none => rfl
  | some o => rw [k _ _ e] at q; cases q
local macro_rules
  | `(tactic| walk_at "exec Assign cons ListComp") => `(tactic| kfm_turns)
  | `(tactic| walk_at "eval ListComp") => `(tactic| kfm_turns)
  | `(tactic| walk_at "call builtin:sum") => `(tactic| kfm_turns)
  | `(tactic| walk_at "pyIter ref") => `(tactic| kfm_turns)
theorem c_counts0 {lc : Addr} {vc : List Value} {ns : List Int} (X : (Mine.K w.params).In h₀) (T : Top p loose mean mg mb h₀) (k0 : Keep h₀ s.heap) (hroom : dp + 20 < recursionLimit)
   (hl : s.heap.IsList lc vc.toArray) (hI : IntsAre vc ns) (hlen : ns.length ≤ 63)
   (ret : ∀ l t0 t1 t2 t3 t4 c0 c1 c2 c3 c4 ep h' tk', Keep s.heap h' → s.heap.get? l = none → h'.get? l = some (PySem.W.listOf [.int c0 t0, .int c1 t1, .int c2 t2, .int c3 t3, .int c4 t4].toArray ep) → 1 ≤ c0 ∧ c0 ≤ 7 → 0 ≤ c1 ∧ c1 ≤ 6 → 0 ≤ c2 ∧ c2 ≤ 6 → 0 ≤ c3 ∧ c3 ≤ 6 → 0 ≤ c4 ∧ c4 ≤ 6 → Q (.ref l) { s with heap := h', toks := tk' }) :
   wpAny (model prog w) (AR dp un fr gd) (call (.ref 100) [.ref lc]) Q E s := by
  w_top off
  refine enterC (binds := [("script", .ref lc)]) (hid := []) X T k0 (by intro p hp; cases hp) (by intro p hp; cases hp) (by k_is) (by k_is) (by show dp < _; exact room0 hroom) (BindsTo.of_eq rfl) rfl (by decide +kernel) ?_ rfl rfl rfl
  intro g L' h₁ tk cells hg F NN Y X' T' k1 l1
  refine retQ fun Q' E' hQ => ?_
  have hg' : g = s.heap := hg
  subst hg'
  clear hg l1
  k_cells Y
  simp only [List.cons_append, List.nil_append] at NN
  rename_i oB oS dB dS
  have hscript : oS.data = .cell (some (.ref lc)) := dS
  k_steps
  show wpAny _ _ _ _ _ _
  rename Obj.data _ = Data.cell (some (Value.ref _)) => hbegun
  rename Fr _ _ _ _ => F0
  rename News _ _ _ _ => N0
  rename_i l0 _ _ _ _
  refine compAssignI 5 (fun _ => true) (fun i => [3, 0, 2, 5, 1].getD i 0 + ((pickNums ns (some (i : Int)) (some 63) (some 5)).map (· % 1000000)).sum) F0 N0 rfl rfl (by decide) rfl (by decide) rfl rfl rfl ?_ (by intro _; rfl)
  k_steps
  show wpAny _ _ _ _ _ _
  rename News _ _ _ _ => N2
  rename Fr _ _ _ _ => F2
  refine srcRange rfl F2 N2 (by assumption) (by decide) (by rfl) ?_ ?_ ?_
  · intro C D J gg i v m₁ h tk oI oD E' hi hP hk F N
    exact wpAny_tests_nil ⟨_, _, rfl, Keep.rfl, rfl⟩
  · rintro C D J gg i v m₁ h tk oI oD E' hi ⟨ti, rfl⟩ _ hk F N
    have hcell := hk _ _ (N2.get (show (L' + 1 + 1, _) ∈ _ by k_mem))
    have hcell2 := hk _ _ (N2.get (show (L' + 1, _) ∈ _ by k_mem))
    have hlist := hk _ _ (N2.get (show (l0, _) ∈ _ by k_mem))
    have Xg := X'.keeps (Keep.trans F2.keep hk)
    have Tg := T'.keeps (Keep.trans F2.keep hk)
    refine wpAny_BinOp (Subscript_ (nameAC F rfl (by rfl) (by rfl) hcell hbegun (nameAL F rfl (by rfl) (by rfl) ?_)))
    refine item_list_ints (vs := [.int 3 _, .int 0 _, .int 2 _, .int 5 _, .int 1 _]) (ns := [3, 0, 2, 5, 1]) ⟨_, F.keep _ _ hlist, rfl, _, rfl⟩ (.cons _ _ (.cons _ _ (.cons _ _ (.cons _ _ (.cons _ _ .nil))))) (by omega) (by show (i : Int) < 5; omega) (by omega) fun t => ?_
    refine wpAny_Call_NameR (nameAB F Xg Tg rfl (by rfl) (by rfl) (by rfl) (by k_is) (by boot_fact) (by decide) ?_)
    k_steps
    show wpAny _ _ _ _ _ _
    have hpk := hI.pick (some (i : Int)) (some 63) (some 5)
    have hk3 := Nat.le_trans (length_pickNums_le hI (some (i : Int)) (some 63) (some 5)) hlen
    have hscr : gg.IsList lc vc.toArray := hl.at fun o e => hk _ _ (F2.keep _ _ e)
    dsimp only
    generalize pickNums ns (some (i : Int)) (some 63) (some 5) = ks at *
    have hvlen := hI.length
    refine compI ks.length (fun _ => true) (fun j => ks.getD j 0 % 1000000) F N rfl (by decide) rfl (by decide) rfl ?_ (by intro _; rfl)
    refine Subscript_ (nameAC F rfl (by rfl) (by rfl) hcell2 hscript (wpAny_Slice (wpAny_evalPart_some (nameAL F rfl (by rfl) (by rfl) (wpAny_evalPart_some (wpAny_Constant_int (wpAny_evalPart_some (wpAny_Constant_int ?_))))))))
    refine slice3K (s := ⟨_, _, _, _, _⟩) (hscr.at fun o e => F.keep _ _ e) (.int _ _) (.int _ _) (.int _ _) (by decide) ?_ (hsz := by rw [List.size_toArray, hvlen]; show ns.length ≤ 16777216; omega)
    intro D4 h4 k4 n4 g4
    refine srcList (items := slicePick vc.toArray (some (i : Int)) (some 63) (some 5)) rfl (frKeep F k4) (newsKeep N k4) ⟨_, g4, rfl, _, rfl⟩ (by rw [← hpk.length]; simp) (by show _ ≤ 16777216; omega) (by rfl) ?_ ?_ ?_
    · intro C D J gg i v m₁ h tk oI oD E' hi hP hk F N
      exact wpAny_tests_nil ⟨_, _, rfl, Keep.rfl, rfl⟩
    · intro C5 D5 J5 g5 j v m5 h5 tk5 oI5 oD5 E5 hj hP5 _ hk5 F5 N5
      obtain ⟨t5, e5⟩ := hpk.get j _ (List.getElem?_eq_getElem hj)
      rw [Array.getElem?_toList, hP5, show ks[j] = ks.getD j 0 by simp [hj]] at e5
      obtain rfl := Option.some.inj e5
      refine wpAny_BinOp (nameAL F5 rfl (by rfl) (by rfl) (wpAny_Constant_int (modPos (by decide) ?_)))
      exact ⟨_, _, _, rfl, Keep.rfl, rfl⟩
    · intro J5 h5 n5 k5 D6 vs6 ep6 h6 tk6 F6 N6 l6 hI6 k6
      have k46 : Keep h h6 := fun b o e => k6 b o (fun q => by cases q; rw [k4 _ _ e] at n5; cases n5) (k5 _ _ (k4 _ _ e))
      have hI7 : IntsAre vs6 (ks.map (· % 1000000)) := by
        have e : List.map (fun j => ks.getD j 0 % 1000000) (List.filter (fun _ => true) (List.range ks.length)) = ks.map (· % 1000000) := mapRange ks (· % 1000000)
        rw [← e]; exact hI6
      k_steps
      show wpAny _ _ _ _ _ _
      refine sumK rfl (isListNews N6 (.head _)) hI7 fun h7 tk7 t7 k7 => ?_
      refine add_int ?_
      exact ⟨_, _, _, rfl, Keep.trans k46 k7, rfl⟩
  · intro J hh _ _ D vs ep h' tk F3 N3 l3 hI3
    have hI4 : ∃ d0 d1 d2 d3 d4, IntsAre vs [d0, d1, d2, d3, d4] := ⟨_, _, _, _, _, hI3⟩
    clear hI3
    obtain ⟨d0, d1, d2, d3, d4, hI4⟩ := hI4
    obtain ⟨t0, t1, t2, t3, t4, rfl⟩ := ints5 hI4
    simp only [AllNe, and_true] at l3
    k_steps
    show wpAny _ _ _ _ _ _
    rename News _ _ _ _ => N8
    rename Fr _ _ _ _ => F8
    refine compI 4 (fun _ => true) (fun i => [d1, d2, d3, d4].getD i 0 % 7) F8 N8 rfl (by decide) rfl (by decide) rfl ?_ (by intro _; rfl)
    k_steps
    show wpAny _ _ _ _ _ _
    rename News _ _ _ _ => N9
    rename Fr _ _ _ _ => F9
    refine srcList (items := [.int d1 t1, .int d2 t2, .int d3 t3, .int d4 t4].toArray) rfl F9 (fun p hp => N9 p (.tail _ hp)) (isListNews N9 (.head _)) rfl (by decide) (by rfl) ?_ ?_ ?_
    · intro C D J gg i v m₁ h tk oI oD E' hi hP hk F N
      exact wpAny_tests_nil ⟨_, _, rfl, Keep.rfl, rfl⟩
    · intro C5 D5 J5 g5 j v m5 h5 tk5 oI5 oD5 E5 hj hP5 _ hk5 F5 N5
      have hv : ∃ t, v = .int ([d1, d2, d3, d4].getD j 0) t := by
        match j, hj with
        | 0, _ => exact ⟨_, (Option.some.inj hP5).symm⟩
        | 1, _ => exact ⟨_, (Option.some.inj hP5).symm⟩
        | 2, _ => exact ⟨_, (Option.some.inj hP5).symm⟩
        | 3, _ => exact ⟨_, (Option.some.inj hP5).symm⟩
      obtain ⟨t5, rfl⟩ := hv
      refine wpAny_BinOp (nameAL F5 rfl (by rfl) (by rfl) (wpAny_Constant_int (modPos (by decide) ?_)))
      exact ⟨_, _, _, rfl, Keep.rfl, rfl⟩
    · intro J5 h5 _ _ D6 vs6 ep6 h6 tk6 F6 N6 l6 hI6 _
      have hI7 : IntsAre vs6 [d1 % 7, d2 % 7, d3 % 7, d4 % 7] := hI6
      clear hI6
      obtain ⟨u1, u2, u3, u4, rfl⟩ := ints4 hI7
      simp only [AllNe, and_true] at l6
      k_steps
      rename News _ _ _ _ => N10
      rename Fr _ _ _ _ => F10
      refine hQ _ _ (ret _ _ u1 u2 u3 u4 _ (d1 % 7) (d2 % 7) (d3 % 7) (d4 % 7) _ _ _ F10.keep (N10.fresh (by k_mem)) (N10.get (by k_mem)) ?_ ?_ ?_ ?_ ?_)
      · rw [Int.fmod_eq_emod_of_nonneg _ (by decide)]; omega
      all_goals omega
end
end Mine
end
namespace Mine
theorem turn12 {M : PySem.Model} {A : PySem.Around} {E : PySem.Value → PySem.Shared → Prop} {s : PySem.Shared} {env : PySem.Env} {Q : PySem.Flow → PySem.Shared → Prop} (h : Q .next s) : PySem.wpAny M A (PySem.execs [] env) Q E s := by
  w_top off
  walk1
  exact h
end Mine
section
open PySem PySem.W PyProof.Rows
set_option maxRecDepth 100000
set_option maxHeartbeats 8000000
namespace Mine
open Builtin.Int (intBits)
/-- the row of parts: as often as told each owner's number -/
def partsTo (cs : List Int) (many : Int) (n : Nat) : List Int := (List.range n).flatMap fun i => List.replicate (cs.getD i 0 * many).toNat (i : Int)
theorem partsTo_succ (cs : List Int) (many : Int) (n : Nat) : partsTo cs many (n + 1) = partsTo cs many n ++ List.replicate (cs.getD n 0 * many).toNat (n : Int) := by
  simp [partsTo, List.range_succ]
theorem ints_replicate (x : Int) (t : Tok) : ∀ n, IntsAre (List.replicate n (.int x t)) (List.replicate n x)
  | 0 => .nil
  | n + 1 => by rw [List.replicate_succ, List.replicate_succ]; exact .cons _ _ (ints_replicate x t n)
theorem partsTo_len {cs : List Int} {many : Int} (hc : ∀ c ∈ cs, 0 ≤ c ∧ c ≤ 7) (hm : 4 ≤ many ∧ many ≤ 8) : ∀ n, (partsTo cs many n).length ≤ 56 * n
  | 0 => by simp [partsTo]
  | n + 1 => by
    have ih := partsTo_len hc hm n
    rw [partsTo_succ, List.length_append, List.length_replicate]
    have hci : 0 ≤ cs.getD n 0 ∧ cs.getD n 0 ≤ 7 := by
      rw [List.getD_eq_getElem?_getD]
      cases q : cs[n]? with
      | none => simp
      | some c => simpa using hc c (List.mem_of_getElem? q)
    have : cs.getD n 0 * many ≤ 56 := Int.le_trans (Int.mul_le_mul hci.2 hm.2 (by omega) (by omega)) (by decide)
    omega
section
variable {prog : Program} {w : World} {dp un : Nat} {fr : Option (List Env)} {gd : Option (List Code)} {s : Shared} {p : Program} {loose : List Str} {mean : ExcName → Option Value} {mg mb : Str → Option Value} {Q : Value → Shared → Prop} {E : Value → Shared → Prop}
  {h₀ : Heap}
theorem foldOne (v : Value) : ∀ (n : Nat) (a : Array Value), List.foldl (fun x1 x2 => x1 ++ x2) a (List.replicate n #[v]) = a ++ (List.replicate n v).toArray
  | 0, a => by simp
  | n + 1, a => by
    rw [List.replicate_succ, List.foldl_cons, foldOne v n, List.replicate_succ]
    apply Array.toList_inj.mp
    simp
theorem mulOne {A : Around} {g : Heap} {L l : Addr} {m : Str → Option Value} {news : List (Addr × Obj)} {k : Nat} {v : Value} {x : Int} {u : Tok} (F : Fr g L s.heap m) (N : News g L s.heap news) (hl : (l, PySem.W.listOf #[v] k) ∈ news) (h0 : 0 ≤ x) (h1 : x ≤ 1000)
    (h : ∀ D h', Fr g L h' m → News g L h' ((D, PySem.W.listOf (List.replicate x.toNat v).toArray 0) :: news) → AllNe D news → Q (.ref D) { s with heap := h' }) : wpAny (model prog w) A (binaryOp .Mult (.ref l) (.int x u)) Q E s := by
  refine mul_list F N (N.get hl) (by omega) (by omega) (by simp; omega) fun h' F' N' => ?_
  have e : List.foldl (fun x1 x2 => x1 ++ x2) #[] (List.replicate (if (#[v] : Array Value).isEmpty = true then 0 else x.toNat) #[v]) = (List.replicate x.toNat v).toArray := by
    rw [if_neg (by simp), foldOne]; simp
  rw [e] at N'
  exact h _ h' F' N' (newsNe (sizeNone _) N)
theorem updOf {d : Addr} {o : Obj} (o' : Obj) : ∀ {l : List (Addr × Obj)} {g : Obj → List (Addr × Obj)}, UpdF d o l g → Upd d o o' l (g o')
  | _, _, .head h => .head h
  | _, _, .tail h r => .tail h (updOf o' r)
theorem extAny {A : Around} {g : Heap} {L D b : Addr} {m : Str → Option Value} {news : List (Addr × Obj)} {gf : Obj → List (Addr × Obj)} {ys zs : List Value} {n n2 : Nat} (F : Fr g L s.heap m) (N : News g L s.heap news) (hb : (b, PySem.W.listOf zs.toArray n2) ∈ news) (U : UpdF D (PySem.W.listOf ys.toArray n) news gf) (hz : ys.length + zs.length ≤ 10000)
    (h : ∀ h' n', Fr g L h' m → News g L h' (gf (PySem.W.listOf (ys ++ zs).toArray n')) → Q .none { s with heap := h' }) : wpAny (model prog w) A (call (.builtin "list.extend") [.ref D, .ref b]) Q E s := by
  have hd : ¬(!ys.toArray.isEmpty && Builtin.List.listTooLong (ys.toArray.size + zs.toArray.size)) = true := by
    simp [Builtin.List.listTooLong, sizeLine]; omega
  by_cases q : zs = []
  · subst q
    refine kxn_extend F N hb rfl (updOf _ U) hd (by rw [List.toList_toArray, sizeLine_eq]; omega) (by simp [sizeLine_eq]; omega) fun h' F' N' => h h' n F' (by rw [List.append_nil]; exact N')
  · refine kl_extend F N hb rfl (by rw [List.toList_toArray]; intro e; exact q (List.length_eq_zero_iff.mp e)) (updOf _ U) hd (by rw [List.toList_toArray, sizeLine_eq]; omega) (by simp [sizeLine_eq]; omega) fun h' F' N' => h h' _ F' N'
local macro_rules
  | `(tactic| walk_at "binaryOp Mult ref int") => `(tactic| kfm_turns)
  | `(tactic| walk_at "call builtin:list.extend") => `(tactic| kfm_turns)
  | `(tactic| walk_at "exec For Name Call cons nil") => `(tactic| kfm_turns)
  | `(tactic| walk_at "subscriptTail Name Slice ref ref") => `(tactic| kfm_turns)
  | `(tactic| walk_at "pyIter ref") => `(tactic| kfm_turns)
  | `(tactic| walk_at "eval Name") => `(tactic| kpt_turns)
/-- between the turns of the row's loop -/
inductive RowI (lp lc : Addr) (start grand many : Int) (t1 t2 t3 : Tok) (cs : List Int) (i : Nat) (m : Str → Option Value) (h : Heap) : Prop
  | mk (vs : List Value) (ep : Nat) (a1 : m "parts" = some (.ref lp)) (a2 : m "counts" = some (.ref lc)) (a3 : m "start" = some (.int start t1)) (a4 : m "grand" = some (.int grand t2)) (a5 : m "many" = some (.int many t3)) (a6 : h.get? lp = some (PySem.W.listOf vs.toArray ep)) (a7 : IntsAre vs (partsTo cs many i))
theorem c_row0 {lc : Addr} {vc : List Value} {cs : List Int} {start grand many : Int} {t1 t2 t3 : Tok} (X : (Mine.K w.params).In s.heap) (T : Top p loose mean mg mb s.heap) (hroom : dp + 20 < recursionLimit)
   (hl : s.heap.IsList lc vc.toArray) (hI : IntsAre vc cs) (hlen : cs.length = 5) (hc : ∀ c ∈ cs, 0 ≤ c ∧ c ≤ 7) (hm : 4 ≤ many ∧ many ≤ 8) (hs : 0 ≤ start) (hg : 0 < grand)
   (ret : ∀ l vs ep h' tk', Keep s.heap h' → s.heap.get? l = none → h'.get? l = some (PySem.W.listOf (vs : List Value).toArray ep) → IntsAre vs (pickNums (partsTo cs many 5) (some start) none (some grand)) → Q (.ref l) { s with heap := h', toks := tk' }) :
   wpAny (model prog w) (AR dp un fr gd) (call (.ref 126) [.ref lc, .int start t1, .int grand t2, .int many t3]) Q E s := by
  w_top off
  refine enter (binds := [("counts", .ref lc), ("start", .int start t1), ("grand", .int grand t2), ("many", .int many t3)]) X T (by k_is) (by k_is) (by show dp < _; exact room0 hroom) (BindsTo.of_eq rfl) (locs rfl) ?_ rfl rfl rfl (by decide)
  intro L' h₁ F NN
  refine retQ fun Q' E' hQ => ?_
  k_steps
  show wpAny _ _ _ _ _ _
  refine wpAny_For (hs := by intro _; rfl) ?_
  k_steps
  show wpAny _ _ _ _ _ _
  rename News _ _ _ _ => N2
  rename Fr _ _ _ _ => F2
  rename IsRange _ _ _ _ _ _ _ _ => R2
  rename_i lp _ _ _ _ _ _ _ _ _ _ _
  have hp0 : s.heap.get? lp = none := N2.fresh (.head _)
  have hpL : @Ne Nat lp L' := (N2 _ (.head _)).2.1
  have hpI := Heap.lt_size (N2.get (.head _))
  refine forRange (n := 5) rfl F2 R2 rfl (by decide) rfl rfl
    (RowI lp lc start grand many t1 t2 t3 cs) ?_ ?_ ?_ ?_
  · rintro I i m h h' hIs ⟨vs, ep, a1, a2, a3, a4, a5, a6, a7⟩ k
    exact ⟨vs, ep, a1, a2, a3, a4, a5, k _ _ (Nat.ne_of_lt (hIs ▸ hpI)) hpL a6, a7⟩
  · intro h' k
    exact ⟨[], 0, rfl, rfl, rfl, rfl, rfl, k _ _ (N2.get (.head _)), .nil⟩
  · rintro I i t m₁ h tk oI hIs hi ⟨vs, ep, a1, a2, a3, a4, a5, a6, a7⟩ F hoI hI0 hIL
    clear F2 R2
    have NN : News s.heap L' h [(lp, PySem.W.listOf vs.toArray ep), (I, oI)] := by
      intro p hp
      rcases List.mem_cons.mp hp with rfl | hp
      · exact ⟨a6, hpL, hp0⟩
      · rw [List.mem_singleton.mp hp]; exact ⟨hoI, hIL, hI0⟩
    have hlv := a7.length
    have hpI' : @Ne Nat lp I := Nat.ne_of_lt (hIs ▸ hpI)
    clear N2 hpI hIs
    have hci : 0 ≤ cs.getD i 0 ∧ cs.getD i 0 ≤ 7 := by
      rw [List.getD_eq_getElem?_getD, List.getElem?_eq_getElem (by omega)]
      exact hc _ (List.getElem_mem _)
    have hcm : 0 ≤ cs.getD i 0 * many ∧ cs.getD i 0 * many ≤ 56 := ⟨Int.mul_nonneg hci.1 (by omega), Int.le_trans (Int.mul_le_mul hci.2 hm.2 (by omega) (by omega)) (by decide)⟩
    k_steps
    show wpAny _ _ _ _ _ _
    rw [Int.toNat_natCast]
    refine mulOne (by k_asm) (by k_asm) (by k_mem) hcm.1 (by omega) ?_
    intro D5 h5 F5 N5 l5
    simp only [AllNe, and_true] at l5
    k_steps
    show wpAny _ _ _ _ _ _
    refine extAny (by k_asm) (by k_asm) (by k_mem) (by k_updF) ?_ ?_
    · have := partsTo_len hc hm i
      simp only [List.length_replicate]
      omega
    intro h6 n6 F6 N6
    k_steps
    refine ⟨_, _, _, rfl, F6, N6.get (by k_mem), _, _, a1, a2, a3, a4, a5, N6.get (by k_mem), ?_⟩
    rw [partsTo_succ]
    exact a7.append (ints_replicate _ _ _)
  · rintro m' h tk ⟨vs, ep, a1, a2, a3, a4, a5, a6, a7⟩ F
    dsimp only
    have NN : News s.heap L' h [(lp, PySem.W.listOf vs.toArray ep)] := by
      intro p hp
      rw [List.mem_singleton.mp hp]; exact ⟨a6, hpL, hp0⟩
    clear F2 N2 R2
    have hlv := a7.length
    k_steps
    show wpAny _ _ _ _ _ _
    refine slice_list3 (s := ⟨_, _, _, _, _⟩) F NN (isListNews NN (.head _)) (.int _ _) .none (.int _ _) (by simp; omega) ?_ (hsz := by have := partsTo_len hc hm 5; rw [List.size_toArray, hlv, sizeLine_eq]; omega)
    intro h8 F8 N8
    dsimp only
    have hpk := a7.pick (some start) none (some grand)
    refine hQ _ _ (ret _ (slicePick vs.toArray (some start) none (some grand)).toList _ _ _ F8.keep (N8.fresh (.head _)) (N8.get (.head _)) hpk)
end
end Mine
end
section
open PySem PySem.W PyProof.Rows
namespace Mine
/-- whose part lies at a place -/
def own (e0 e1 e2 e3 T : Int) : Int := if T < e0 then 0 else if T < e0 + e1 then 1 else if T < e0 + e1 + e2 then 2 else if T < e0 + e1 + e2 + e3 then 3 else 4
theorem getD_rep_append {n : Nat} {x d : Int} {r : List Int} {k : Nat} : (List.replicate n x ++ r).getD k d = if k < n then x else r.getD (k - n) d := by
  rw [List.getD_eq_getElem?_getD]
  by_cases h : k < n
  · rw [List.getElem?_append_left (by simpa using h), List.getElem?_replicate, if_pos h, if_pos h]; rfl
  · rw [List.getElem?_append_right (by simpa using Nat.not_lt.mp h), if_neg h, List.getD_eq_getElem?_getD, List.length_replicate]
theorem partsFive (c0 c1 c2 c3 c4 many : Int) : partsTo [c0, c1, c2, c3, c4] many 5 = List.replicate (c0 * many).toNat 0 ++ (List.replicate (c1 * many).toNat 1 ++ (List.replicate (c2 * many).toNat 2 ++ (List.replicate (c3 * many).toNat 3 ++ (List.replicate (c4 * many).toNat 4 ++ [])))) := by
  rfl
theorem repStep {e T x d y : Int} {c : Prop} [Decidable c] {r : List Int} (he : 0 ≤ e) (hT : 0 ≤ T) (hc : c ↔ T < e) (h : 0 ≤ T - e → r.getD (T - e).toNat d = y) : (List.replicate e.toNat x ++ r).getD T.toNat d = if c then x else y := by
  rw [getD_rep_append]
  by_cases q : T < e
  · rw [if_pos (hc.mpr q), if_pos (by clear h; omega)]
  · rw [if_neg (fun z => q (hc.mp z)), if_neg (by clear h; omega), ← h (by clear h; omega), show T.toNat - e.toNat = (T - e).toNat by clear h; omega]
theorem lt1 {T a b : Int} : T < a + b ↔ T - a < b := by omega
theorem lt2 {T a b c : Int} : T < a + b + c ↔ T - a - b < c := by omega
theorem lt3 {T a b c d : Int} : T < a + b + c + d ↔ T - a - b - c < d := by omega
theorem lt4 {T a b c d e : Int} : T < a + b + c + d + e ↔ T - a - b - c - d < e := by omega
theorem parts_own {c0 c1 c2 c3 c4 many : Int} {T : Int} (h0 : 0 ≤ c0 * many) (h1 : 0 ≤ c1 * many) (h2 : 0 ≤ c2 * many) (h3 : 0 ≤ c3 * many) (h4 : 0 ≤ c4 * many) (hT : 0 ≤ T) (hT' : T < c0 * many + c1 * many + c2 * many + c3 * many + c4 * many) :
    (partsTo [c0, c1, c2, c3, c4] many 5).getD T.toNat 0 = own (c0 * many) (c1 * many) (c2 * many) (c3 * many) T := by
  rw [partsFive]
  unfold own
  refine repStep h0 hT Iff.rfl fun t0 => repStep h1 t0 lt1 fun t1 => repStep h2 t1 lt2 fun t2 => repStep h3 t2 lt3 fun t3 => ?_
  rw [repStep h4 t3 lt4 (fun _ => rfl), if_pos hT']
theorem parts_len {c0 c1 c2 c3 c4 many : Int} (h0 : 0 ≤ c0 * many) (h1 : 0 ≤ c1 * many) (h2 : 0 ≤ c2 * many) (h3 : 0 ≤ c3 * many) (h4 : 0 ≤ c4 * many) :
    ((partsTo [c0, c1, c2, c3, c4] many 5).length : Int) = c0 * many + c1 * many + c2 * many + c3 * many + c4 * many := by
  rw [partsFive]
  simp only [List.length_append, List.length_replicate, List.length_nil]
  omega
/-- every so manieth item -/
theorem filterMap_some {P : List Int} {f : Nat → Nat} : ∀ (l : List Nat), (∀ k ∈ l, f k < P.length) → List.filterMap (fun j => P[j]?) (l.map f) = l.map fun k => P.getD (f k) 0
  | [], _ => rfl
  | k :: l, h => by
    rw [List.map_cons, List.filterMap_cons, List.getElem?_eq_getElem (h k (.head _)), List.map_cons, filterMap_some l fun j hj => h j (.tail _ hj)]
    simp [h k (.head _)]
theorem pick_every {P : List Int} {start grand : Int} {many : Nat} (hs : 0 ≤ start) (hs' : start < grand) (hm : 1 ≤ many) (hP : (P.length : Int) = grand * (many : Int)) :
    pickNums P (some start) none (some grand) = (List.range many).map fun (k : Nat) => P.getD (start + grand * (k : Int)).toNat 0 := by
  have hle : grand ≤ (P.length : Int) := by
    rw [hP]
    have : grand * 1 ≤ grand * (many : Int) := Int.mul_le_mul_of_nonneg_left (by omega) (by omega)
    omega
  have hb : sliceBounds (some start) none (some grand) P.length = (start, (P.length : Int), grand) := by
    have h1 : ¬ start < 0 := by omega
    have h2 : grand > 0 := by omega
    have e : max 0 (min start (P.length : Int)) = start := by omega
    simp only [sliceBounds, Option.getD_some, h1, h2, if_true, if_false, e]
  have hc : ((P.length : Int) - start + grand - 1) / grand = many := by
    have := kbt_unique (a := (P.length : Int) - start + grand - 1) (b := grand) (q := (many : Int)) (r := grand - 1 - start) (by omega) (by rw [hP]; omega) (by omega) (by omega)
    exact this.1
  have h2 : grand > 0 := by omega
  have h3 : start < (P.length : Int) := by omega
  unfold pickNums
  rw [hb]
  simp only [sliceRange, h2, h3, if_true, hc, Int.toNat_natCast]
  refine filterMap_some _ fun k hk => ?_
  have hk' : k < many := List.mem_range.mp hk
  have : grand * (k : Int) ≤ grand * ((many : Int) - 1) := Int.mul_le_mul_of_nonneg_left (by omega) (by omega)
  rw [Int.mul_sub, Int.mul_one, ← hP] at this
  have h5 : 0 ≤ grand * (k : Int) := Int.mul_nonneg (by omega) (by omega)
  omega
/-- a bound below a tick, by the parts -/
theorem tick_iff {u S many T : Int} (hu : 0 < u) (hm : 0 < many) : S * u ≤ u * T / many ↔ S * many ≤ T := by
  rw [Int.le_ediv_iff_mul_le hm]
  constructor
  · intro h
    refine Int.le_of_mul_le_mul_left (a := u) ?_ hu
    have : u * (S * many) = S * u * many := by rw [Int.mul_comm S u, Int.mul_assoc]
    omega
  · intro h
    have := Int.mul_le_mul_of_nonneg_left h (Int.le_of_lt hu)
    have e : u * (S * many) = S * u * many := by rw [Int.mul_comm S u, Int.mul_assoc]
    omega
/-- what the searches need of the bounds, in plain form -/
structure Cutd (b0 b1 b2 b3 b4 e0 e1 e2 e3 e4 tick T : Int) : Prop where
  i0 : b0 ≤ tick ↔ e0 ≤ T
  i1 : b1 ≤ tick ↔ e0 + e1 ≤ T
  i2 : b2 ≤ tick ↔ e0 + e1 + e2 ≤ T
  i3 : b3 ≤ tick ↔ e0 + e1 + e2 + e3 ≤ T
  i4 : b4 ≤ tick ↔ e0 + e1 + e2 + e3 + e4 ≤ T
theorem getFive {a b c d e : Int} {r : Int} {P : Int → Prop} (h : P ([a, b, c, d, e].getD r.toNat 0)) : (r = 0 → P a) ∧ (r = 1 → P b) ∧ (r = 2 → P c) ∧ (r = 3 → P d) ∧ (r = 4 → P e) :=
  ⟨fun q => by subst q; exact h, fun q => by subst q; exact h, fun q => by subst q; exact h, fun q => by subst q; exact h, fun q => by subst q; exact h⟩
/-- where the owner stands among the bounds -/
structure Stands (b0 b1 b2 b3 b4 tick k : Int) : Prop where
  lo : 0 ≤ k
  hi : k ≤ 4
  below : ∀ j, 0 ≤ j → j < k → [b0, b1, b2, b3, b4].getD j.toNat 0 ≤ tick
  above : ∀ j, k ≤ j → j < 5 → tick < [b0, b1, b2, b3, b4].getD j.toNat 0
theorem five {j : Int} (h0 : 0 ≤ j) (h5 : j < 5) : j = 0 ∨ j = 1 ∨ j = 2 ∨ j = 3 ∨ j = 4 := by omega
/-- the owner's place against the parts' sums -/
structure Owns (E1 E2 E3 E4 T k : Int) : Prop where
  lo : 0 ≤ k
  hi : k ≤ 4
  o1 : (0 < k → ¬ T < E1) ∧ (k ≤ 0 → T < E1)
  o2 : (1 < k → ¬ T < E2) ∧ (k ≤ 1 → T < E2)
  o3 : (2 < k → ¬ T < E3) ∧ (k ≤ 2 → T < E3)
  o4 : (3 < k → ¬ T < E4) ∧ (k ≤ 3 → T < E4)
theorem no {a b : Int} {P : Prop} (h : ¬ a ≤ b) : a ≤ b → P := fun q => absurd q h
theorem no' {a b : Int} {P : Prop} (h : ¬ a < b) : a < b → P := fun q => absurd q h
theorem owns {E1 E2 E3 E4 T : Int} (m1 : E1 ≤ E2) (m2 : E2 ≤ E3) (m3 : E3 ≤ E4) : Owns E1 E2 E3 E4 T (if T < E1 then 0 else if T < E2 then 1 else if T < E3 then 2 else if T < E4 then 3 else 4) := by
  have up := fun {a b : Int} (h : T < a) (k : a ≤ b) => Int.lt_of_lt_of_le h k
  by_cases h1 : T < E1
  · rw [if_pos h1]
    exact ⟨by decide, by decide, ⟨no' (by decide), fun _ => h1⟩, ⟨no' (by decide), fun _ => up h1 m1⟩, ⟨no' (by decide), fun _ => up (up h1 m1) m2⟩, no' (by decide), fun _ => up (up (up h1 m1) m2) m3⟩
  rw [if_neg h1]
  by_cases h2 : T < E2
  · rw [if_pos h2]
    exact ⟨by decide, by decide, ⟨fun _ => h1, no (by decide)⟩, ⟨no' (by decide), fun _ => h2⟩, ⟨no' (by decide), fun _ => up h2 m2⟩, no' (by decide), fun _ => up (up h2 m2) m3⟩
  rw [if_neg h2]
  by_cases h3 : T < E3
  · rw [if_pos h3]
    exact ⟨by decide, by decide, ⟨fun _ => h1, no (by decide)⟩, ⟨fun _ => h2, no (by decide)⟩, ⟨no' (by decide), fun _ => h3⟩, no' (by decide), fun _ => up h3 m3⟩
  rw [if_neg h3]
  by_cases h4 : T < E4
  · rw [if_pos h4]
    exact ⟨by decide, by decide, ⟨fun _ => h1, no (by decide)⟩, ⟨fun _ => h2, no (by decide)⟩, ⟨fun _ => h3, no (by decide)⟩, no' (by decide), fun _ => h4⟩
  rw [if_neg h4]
  exact ⟨by decide, by decide, ⟨fun _ => h1, no (by decide)⟩, ⟨fun _ => h2, no (by decide)⟩, ⟨fun _ => h3, no (by decide)⟩, fun _ => h4, no (by decide)⟩
theorem le1 {a b : Int} (h : 0 ≤ b) : a ≤ a + b := by omega
theorem stands_own {b0 b1 b2 b3 b4 e0 e1 e2 e3 e4 tick T : Int} (C : Cutd b0 b1 b2 b3 b4 e0 e1 e2 e3 e4 tick T) (h0 : 0 ≤ e0) (h1 : 0 ≤ e1) (h2 : 0 ≤ e2) (h3 : 0 ≤ e3) (h4 : 0 ≤ e4) (hT' : T < e0 + e1 + e2 + e3 + e4) : Stands b0 b1 b2 b3 b4 tick (own e0 e1 e2 e3 T) := by
  obtain ⟨i0, i1, i2, i3, i4⟩ := C
  have O := owns (T := T) (le1 (a := e0) h1) (le1 (a := e0 + e1) h2) (le1 (a := e0 + e1 + e2) h3)
  change Owns _ _ _ _ _ (own e0 e1 e2 e3 T) at O
  generalize own e0 e1 e2 e3 T = k at *
  have yes := fun {b e : Int} (i : b ≤ tick ↔ e ≤ T) (h : ¬ T < e) => i.mpr (Int.not_lt.mp h)
  have nay := fun {b e : Int} (i : b ≤ tick ↔ e ≤ T) (h : T < e) => Int.not_le.mp fun q => absurd h (Int.not_lt.mpr (i.mp q))
  refine ⟨O.lo, O.hi, fun j j0 jk => ?_, fun j jk j5 => ?_⟩
  · rcases five j0 (Int.lt_trans (Int.lt_of_lt_of_le jk O.hi) (by decide)) with rfl | rfl | rfl | rfl | rfl
    · exact yes i0 (O.o1.1 jk)
    · exact yes i1 (O.o2.1 jk)
    · exact yes i2 (O.o3.1 jk)
    · exact yes i3 (O.o4.1 jk)
    · exact absurd O.hi (Int.not_le.mpr jk)
  · rcases five (Int.le_trans O.lo jk) j5 with rfl | rfl | rfl | rfl | rfl
    · exact nay i0 (O.o1.2 jk)
    · exact nay i1 (O.o2.2 jk)
    · exact nay i2 (O.o3.2 jk)
    · exact nay i3 (O.o4.2 jk)
    · exact nay i4 hT'
/-- a search among standing bounds ends at one place -/
theorem bis_one {f : Int → Int} {tick k lo hi r z : Int} (k0 : 0 ≤ k) (k4 : k ≤ 4) (l0 : 0 ≤ lo) (h5 : hi ≤ 5) (below : ∀ j, 0 ≤ j → j < k → f j ≤ tick) (above : ∀ j, k ≤ j → j < 5 → tick < f j)
    (z1 : lo ≤ z) (z2 : k ≤ z ∨ hi ≤ z) (z3 : z ≤ lo ∨ (z ≤ hi ∧ z ≤ k)) (q1 : lo ≤ r) (q2 : r ≤ hi ∨ r = lo) (q3 : r = lo ∨ f (r - 1) ≤ tick) (q4 : hi ≤ r ∨ tick < f r) : r = z := by
  refine Int.le_antisymm (Int.not_lt.mp fun q => ?_) (Int.not_lt.mp fun q => ?_)
  · have a := above (r - 1)
    clear below above q4 z3
    omega
  · have a := below r
    clear below above q3 z2
    omega
theorem bisR_own {b0 b1 b2 b3 b4 tick k lo hi r z : Int} (S : Stands b0 b1 b2 b3 b4 tick k)
    (B : BisR [b0, b1, b2, b3, b4] tick lo hi r) (hz : (lo = 0 ∧ hi = 5 ∧ z = k) ∨ (lo = k + 1 ∧ hi = 5 ∧ z = k + 1) ∨ (lo = 0 ∧ hi = k / 2 ∧ z = k / 2)) : r = z := by
  obtain ⟨q1, q2, q3, q4⟩ := B
  obtain ⟨s1, s2, u, v⟩ := S
  have : 0 ≤ lo ∧ hi ≤ 5 ∧ lo ≤ z ∧ (k ≤ z ∨ hi ≤ z) ∧ (z ≤ lo ∨ (z ≤ hi ∧ z ≤ k)) := by
    clear q1 q2 q3 q4 u v
    rcases hz with ⟨rfl, rfl, rfl⟩ | ⟨rfl, rfl, rfl⟩ | ⟨rfl, rfl, rfl⟩
    · omega
    · omega
    · omega
  exact bis_one (f := fun j => [b0, b1, b2, b3, b4].getD j.toNat 0) s1 s2 this.1 this.2.1 u v this.2.2.1 this.2.2.2.1 this.2.2.2.2 q1 q2 q3 q4
theorem bisL_own {b0 b1 b2 b3 b4 tick k lo hi r z : Int} (S : Stands b0 b1 b2 b3 b4 tick k)
    (B : BisL [b0, b1, b2, b3, b4] (tick + 1) lo hi r) (hz : (lo = 0 ∧ hi = 5 ∧ z = k) ∨ (lo = k + 1 ∧ hi = 5 ∧ z = k + 1) ∨ (lo = 0 ∧ hi = k / 2 ∧ z = k / 2)) : r = z :=
  bisR_own S ⟨B.1, B.2.1, B.2.2.1.imp id Int.lt_add_one_iff.mp, B.2.2.2.imp id (fun q => Int.lt_of_lt_of_le (Int.lt_succ _) q)⟩ hz
end Mine
end
namespace Mine
theorem turn13 {M : PySem.Model} {A : PySem.Around} {E : PySem.Value → PySem.Shared → Prop} {s : PySem.Shared} {env : PySem.Env} {Q : PySem.Flow → PySem.Shared → Prop} (h : Q .next s) : PySem.wpAny M A (PySem.execs [] env) Q E s := by
  w_top off
  walk1
  exact h
end Mine
section
open PySem PySem.W PyProof.Rows
set_option maxRecDepth 100000
set_option maxHeartbeats 8000000
namespace Mine
open Builtin.Int (intBits)
section
variable {prog : Program} {w : World} {dp un : Nat} {fr : Option (List Env)} {gd : Option (List Code)} {s : Shared} {p : Program} {loose : List Str} {mean : ExcName → Option Value} {mg mb : Str → Option Value} {Q : Value → Shared → Prop} {E : Value → Shared → Prop}
  {h₀ : Heap}
theorem fdivSmall {A : Around} {a b : Int} {t u : Tok} (hb : 0 < b) (hb2 : b < 1000) (h : Q (.int (a / b) s.toks) { s with toks := s.toks + 1 }) : wpAny (model prog w) A (binaryOp .FloorDiv (.int a t) (.int b u)) Q E s :=
  fdivTo hb (log2_small hb (by omega)) rfl h
local macro_rules
  | `(tactic| walk_at "binaryOp FloorDiv int int") => `(tactic| (refine fdivSmall (by omega) (by omega) ?_; try dsimp only))
  | `(tactic| walk_at "binaryOp Mult int int") => `(tactic| (refine mul_int ?_ (IntMulOk.of_right (intBits_le_64 (by omega) (by omega))); try dsimp only))
  | `(tactic| walk_at "exec For Name Call cons nil") => `(tactic| kfm_turns)
  | `(tactic| walk_at "pyIter ref") => `(tactic| kfm_turns)
  | `(tactic| walk_at "eval Name") => `(tactic| kpt_turns)
/-- between the turns of the owners' loop -/
inductive OwI (lp lb : Addr) (U start grand : Int) (many : Nat) (t0 t1 t2 t3 : Tok) (ow : Nat → Int) (i : Nat) (m : Str → Option Value) (h : Heap) : Prop
  | mk (vs : List Value) (ep : Nat) (a1 : m "owners" = some (.ref lp)) (a2 : m "bounds" = some (.ref lb)) (a3 : m "unit" = some (.int U t0)) (a4 : m "start" = some (.int start t1)) (a5 : m "grand" = some (.int grand t2)) (a6 : m "many" = some (.int (many : Int) t3)) (a7 : h.get? lp = some (PySem.W.listOf vs.toArray ep)) (a8 : IntsAre vs ((List.range i).map ow))
theorem c_owners0 {lb : Addr} {vb : List Value} {b0 b1 b2 b3 b4 U start grand : Int} {many : Nat} {ow : Nat → Int} {t0 t1 t2 t3 : Tok} (X : (Mine.K w.params).In s.heap) (T : Top p loose mean mg mb s.heap) (hroom : dp + 20 < recursionLimit)
   (hl : s.heap.IsList lb vb.toArray) (hI : IntsAre vb [b0, b1, b2, b3, b4]) (hm : 4 ≤ many ∧ many ≤ 8) (hs : 0 ≤ start ∧ start < grand) (hg : grand ≤ 40)
   (hS : ∀ k : Nat, k < many → Hold (Stands b0 b1 b2 b3 b4 (U * (start + (k : Int) * grand) / (many : Int)) (ow k)))
   (ret : ∀ l vs ep h' tk', Keep s.heap h' → s.heap.get? l = none → h'.get? l = some (PySem.W.listOf (vs : List Value).toArray ep) → IntsAre vs ((List.range many).map ow) → Q (.ref l) { s with heap := h', toks := tk' }) :
   wpAny (model prog w) (AR dp un fr gd) (call (.ref 119) [.ref lb, .int U t0, .int start t1, .int grand t2, .int (many : Int) t3]) Q E s := by
  w_top off
  refine enter (binds := [("bounds", .ref lb), ("unit", .int U t0), ("start", .int start t1), ("grand", .int grand t2), ("many", .int (many : Int) t3)]) X T (by k_is) (by k_is) (by show dp < _; exact room0 hroom) (BindsTo.of_eq rfl) (locs rfl) ?_ rfl rfl rfl (by decide)
  intro L' h₁ F NN
  refine retQ fun Q' E' hQ => ?_
  k_steps
  show wpAny _ _ _ _ _ _
  refine wpAny_For (hs := by intro _; rfl) ?_
  k_steps
  show wpAny _ _ _ _ _ _
  rename News _ _ _ _ => N2
  rename Fr _ _ _ _ => F2
  rename IsRange _ _ _ _ _ _ _ _ => R2
  rename_i lp _ _ _ _ _ _ _ _ _ _ _
  have hp0 : s.heap.get? lp = none := N2.fresh (.head _)
  have hpL : @Ne Nat lp L' := (N2 _ (.head _)).2.1
  have hpI := Heap.lt_size (N2.get (.head _))
  refine forRange (n := many) rfl F2 R2 rfl (by rw [sizeLine_eq]; omega) rfl rfl
    (OwI lp lb U start grand many t0 t1 t2 t3 ow) ?_ ?_ ?_ ?_
  · rintro I i m h h' hIs ⟨vs, ep, a1, a2, a3, a4, a5, a6, a7, a8⟩ k
    exact ⟨vs, ep, a1, a2, a3, a4, a5, a6, k _ _ (Nat.ne_of_lt (hIs ▸ hpI)) hpL a7, a8⟩
  · intro h' k
    exact ⟨[], 0, rfl, rfl, rfl, rfl, rfl, rfl, k _ _ (N2.get (.head _)), .nil⟩
  · rintro I i t m₁ h tk oI hIs hi ⟨vs, ep, a1, a2, a3, a4, a5, a6, a7, a8⟩ F hoI hI0 hIL
    clear F2 R2
    have NN : News s.heap L' h [(lp, PySem.W.listOf vs.toArray ep), (I, oI)] := by
      intro p hp
      rcases List.mem_cons.mp hp with rfl | hp
      · exact ⟨a7, hpL, hp0⟩
      · rw [List.mem_singleton.mp hp]; exact ⟨hoI, hIL, hI0⟩
    have hlv := a8.length
    rw [List.length_map, List.length_range] at hlv
    have hpI' : @Ne Nat lp I := Nat.ne_of_lt (hIs ▸ hpI)
    clear N2 hpI hIs
    have hkg : 0 ≤ (i : Int) * grand ∧ (i : Int) * grand ≤ 320 := ⟨Int.mul_nonneg (by omega) (by omega), Int.le_trans (Int.mul_le_mul (show (i : Int) ≤ 8 by omega) hg (by omega) (by omega)) (by decide)⟩
    have hSi := hS i hi
    generalize hW : ow i = W at hSi
    have hW0 := hSi.lo
    have hW4 := hSi.hi
    k_steps
    rename News _ _ _ _ => N3
    rename Fr _ _ _ _ => F3
    refine c_bisR20 (X.keeps F3.keep) (T.keeps F3.keep) (by show dp + 2 < _; exact roomK hroom (by decide)) (hl.at fun o e => F3.keep _ _ e) hI (by show 5 ≤ 1000; decide)  fun r tp h' tk' kk B => ?_
    have hr := bisR_own hSi B (.inl ⟨rfl, rfl, rfl⟩)
    clear B
    rw [hr]
    clear hr
    have F3' := frKeep F3 kk
    have N3' := newsKeep N3 kk
    clear F3 N3 kk
    dsimp only
    k_steps
    rename News _ _ _ _ => N4
    rename Fr _ _ _ _ => F4
    refine c_bisL20 (X.keeps F4.keep) (T.keeps F4.keep) (by show dp + 2 < _; exact roomK hroom (by decide)) (hl.at fun o e => F4.keep _ _ e) hI (by show 5 ≤ 1000; decide)  fun r t' h' tk' kk B => ?_
    have hr := bisL_own hSi B (.inl ⟨rfl, rfl, rfl⟩)
    clear B
    rw [hr]
    clear hr
    have F4' := frKeep F4 kk
    have N4' := newsKeep N4 kk
    clear F4 N4 kk
    dsimp only
    k_steps
    · rename @Ne Int _ _ => hne; exact absurd rfl hne
    rename News _ _ _ _ => N5
    rename Fr _ _ _ _ => F5
    refine c_bisR30 (X.keeps F5.keep) (T.keeps F5.keep) (by show dp + 2 < _; exact roomK hroom (by decide)) (hl.at fun o e => F5.keep _ _ e) hI (by show 5 ≤ 1000; decide) (by omega) fun r t' h' tk' kk B => ?_
    have hr := bisR_own hSi B (.inr (.inl ⟨rfl, rfl, rfl⟩))
    clear B
    rw [hr]
    clear hr
    have F5' := frKeep F5 kk
    have N5' := newsKeep N5 kk
    clear F5 N5 kk
    dsimp only
    k_steps
    · rename @Ne Int _ _ => hne; exact absurd rfl hne
    rename News _ _ _ _ => N6
    rename Fr _ _ _ _ => F6
    refine c_bisL30 (X.keeps F6.keep) (T.keeps F6.keep) (by show dp + 2 < _; exact roomK hroom (by decide)) (hl.at fun o e => F6.keep _ _ e) hI (by show 5 ≤ 1000; decide) (by omega) fun r t' h' tk' kk B => ?_
    have hr := bisL_own hSi B (.inr (.inl ⟨rfl, rfl, rfl⟩))
    clear B
    rw [hr]
    clear hr
    have F6' := frKeep F6 kk
    have N6' := newsKeep N6 kk
    clear F6 N6 kk
    dsimp only
    k_steps
    · rename @Ne Int _ _ => hne; exact absurd rfl hne
    rename News _ _ _ _ => N7
    rename Fr _ _ _ _ => F7
    refine c_bisR40 (X.keeps F7.keep) (T.keeps F7.keep) (by show dp + 2 < _; exact roomK hroom (by decide)) (hl.at fun o e => F7.keep _ _ e) hI (by show 5 ≤ 1000; decide) (by decide) (by show _ ≤ (5 : Int); omega) fun r t' h' tk' kk B => ?_
    have hr := bisR_own hSi B (.inr (.inr ⟨rfl, rfl, rfl⟩))
    clear B
    rw [hr]
    clear hr
    have F7' := frKeep F7 kk
    have N7' := newsKeep N7 kk
    clear F7 N7 kk
    dsimp only
    k_steps
    · rename @Ne Int _ _ => hne; exact absurd rfl hne
    rename News _ _ _ _ => N8
    rename Fr _ _ _ _ => F8
    refine c_bisL40 (X.keeps F8.keep) (T.keeps F8.keep) (by show dp + 2 < _; exact roomK hroom (by decide)) (hl.at fun o e => F8.keep _ _ e) hI (by show 5 ≤ 1000; decide) (by decide) (by show _ ≤ (5 : Int); omega) fun r t' h' tk' kk B => ?_
    have hr := bisL_own hSi B (.inr (.inr ⟨rfl, rfl, rfl⟩))
    clear B
    rw [hr]
    clear hr
    have F8' := frKeep F8 kk
    have N8' := newsKeep N8 kk
    clear F8 N8 kk
    dsimp only
    k_steps
    · rename @Ne Int _ _ => hne; exact absurd rfl hne
    rename News _ _ _ _ => N9
    rename Fr _ _ _ _ => F9
    refine ⟨_, _, _, rfl, F9, N9.get (by k_mem), vs ++ [.int W tp], ep + 1, a1, a2, a3, a4, a5, a6, ?_, ?_⟩
    · have : (vs ++ [Value.int W tp]).toArray = vs.toArray.push (.int W tp) := by simp
      rw [this]
      exact N9.get (by k_mem)
    · rw [List.range_succ, List.map_append, List.map_singleton, hW]
      exact a8.append (.cons _ _ .nil)
  · rintro m' h tk ⟨vs, ep, a1, a2, a3, a4, a5, a6, a7, a8⟩ F
    dsimp only
    have NN : News s.heap L' h [(lp, PySem.W.listOf vs.toArray ep)] := by
      intro p hp
      rw [List.mem_singleton.mp hp]; exact ⟨a7, hpL, hp0⟩
    clear F2 N2 R2
    k_steps
    exact hQ _ _ (ret _ _ _ _ _ F.keep hp0 a7 a8)
end
end Mine
end
section
open PySem PySem.W PySem.Calls PyProof.Rows
set_option maxRecDepth 100000
namespace Mine
section
variable {prog : Program} {w : World} {A : Around} {E E1 E2 : Value → Shared → Prop} {s : Shared} {env : Env} {h₀ : Heap} {K : Type} [DecidableEq K] {knd : KeyKind prog w K}
theorem nextPair {xk xv : Str} {pk pv pt : Pos} {x1 : Nat} {it d : Addr} {i ep : Nat} {kvs : List (K × Value)} {k : K} {v ok ov : Value} {m : Str → Option Value} {X : Shared → Prop} {Q : Shared → Prop}
    (hh : A.handled = none) (hxk : env.kindOf xk = some .local) (hxv : env.kindOf xv = some .local) (hp : (env.scope.kind == .class || (env.scope.kind == .module && env.locals != env.globals)) = false)
    (hit : IsItemIter s.heap it d i kvs.length ep ok ov) (hm : s.heap.DictAt knd d kvs ep) (hv : kvs[i]? = some (k, v)) (hn : s.heap.Ns env.locals m) (hiL : it ≠ env.locals)
    (h : ∀ key h' tk, knd.is k key = true → h'.Ns env.locals (fun z => if z = xv then some v else if z = xk then some key else m z) → IsItemIter h' it d (i + 1) kvs.length ep key v →
      (∀ c o, c ≠ it → c ≠ env.locals → s.heap.get? c = some o → h'.get? c = some o) → Q { s with heap := h', toks := tk }) :
    wpAny (model prog w) A (pyNext (.ref it)) (fun r s₁ => match r with
      | none => X s₁
      | some v => wpAny (model prog w) A (letOwnedTupleGo (.Tuple [.Name xk pk, .Name xv pv] x1 pt) (.ref it) v) (fun _ s₁' => wpAny (model prog w) A (assign (.Tuple [.Name xk pk, .Name xv pv] x1 pt) env v) (fun _ s₂ => Q s₂) E2 s₁') E1 s₁) E s := by
  have hiH : it < s.heap.objs.size := Heap.lt_size hit
  have hLH : env.locals < s.heap.objs.size := hn.lt
  refine wpAny_pyNext_items_item hit hm hv fun key h₁ hkey heo ht₁ hz₁ hk₁ => ?_
  refine wpAny_letOwnedTupleGo_items heo fun h₂ he₂ hs₂ => ?_
  replace hs₂ : Heap.SameBut it h₁ h₂ := hs₂
  have ht₂ : h₂.IsTuple s.heap.objs.size #[key, v] := ⟨_, (hs₂.2 _ (Nat.ne_of_gt hiH)).trans ht₁, rfl, _, rfl⟩
  have hn₂ : h₂.Ns env.locals m := (hn.at' fun o x => hk₁ _ o (Ne.symm hiL) x).sameBut hs₂ (Ne.symm hiL)
  refine kcp_assign (s := { s with heap := h₂ }) hh ht₂ hxk hxv hp hn₂ fun h₃ tk hn₃ hk₃ => ?_
  exact h key h₃ tk hkey hn₃ (hk₃ _ _ hiL he₂) fun c o hci hcL e => hk₃ _ _ hcL (hs₂.extBut c o hci (hk₁ c o hci e))
variable {Q : Flow → Shared → Prop}
/-- for k, v in (an items iterator), by what holds of the names and of the heap -/
theorem forItems {xk xv : Str} {pk pv pt : Pos} {x1 : Nat} {body : List Stmt} {it d : Addr} {ep : Nat} {kvs : List (K × Value)} {ok ov : Value} {m : Str → Option Value}
    (hh : A.handled = none) (hxk : env.kindOf xk = some .local) (hxv : env.kindOf xv = some .local) (hp : (env.scope.kind == .class || (env.scope.kind == .module && env.locals != env.globals)) = false)
    (hit : IsItemIter s.heap it d 0 kvs.length ep ok ov) (hm : s.heap.DictAt knd d kvs ep) (F : Fr h₀ env.locals s.heap m) (hiL : it ≠ env.locals) (hdL : d ≠ env.locals) (hdi : d ≠ it) (hI0 : h₀.get? it = none)
    (J : Nat → (Str → Option Value) → Heap → Prop) (hJ : ∀ i m h h', J i m h → (∀ b o, b ≠ it → b ≠ env.locals → h.get? b = some o → h'.get? b = some o) → J i m h')
    (h0 : J 0 m s.heap)
    (turn : ∀ i k v key m₁ h tk oI, kvs[i]? = some (k, v) → knd.is k key = true → J i m₁ h → Fr h₀ env.locals h (fun z => if z = xv then some v else if z = xk then some key else m₁ z) → h.get? it = some oI → h.DictAt knd d kvs ep →
      wpAny (model prog w) A (execs body env) (fun f s₃ => match f with
          | .next | .cont => Hold (∃ h' tk' m', s₃ = { s with heap := h', toks := tk' } ∧ Fr h₀ env.locals h' m' ∧ h'.get? it = some oI ∧ h'.get? d = h.get? d ∧ J (i + 1) m' h')
          | .brk => Q .next s₃
          | .ret v => Q (.ret v) s₃) (notedBy (model prog w) A env fun e s' => cameBackBy (model prog w) A env E e s') { s with heap := h, toks := tk })
    (done : ∀ m' h tk, J kvs.length m' h → Fr h₀ env.locals h m' → h.DictAt knd d kvs ep → Q .next { s with heap := h, toks := tk }) :
    codeAny (model prog w) A (.forLoop (.Tuple [.Name xk pk, .Name xv pv] x1 pt) (.ref it) body [] env) (fun r s' => match r with | .ok f => Q f s' | .error e => cameBackBy (model prog w) A env E e s') s := by
  have mvF : ∀ (h h₁ : Heap) m₁, Fr h₀ env.locals h m₁ → (∀ b o, b ≠ it → b ≠ env.locals → h.get? b = some o → h₁.get? b = some o) → ∀ m₂, h₁.Ns env.locals m₂ → Fr h₀ env.locals h₁ m₂ := fun h h₁ m₁ F₁ k m₂ hn =>
    ⟨hn, fun b o e => k b o (fun q => by rw [q, hI0] at e; cases e) (fun q => by rw [q] at e; exact absurd (Nat.lt_of_lt_of_le (Heap.lt_size e) F₁.above) (Nat.lt_irrefl _)) (F₁.keep b o e), F₁.above⟩
  refine codeAny_forLoop_any (fun n s' => ∃ h tk m i ok ov, s' = { s with heap := h, toks := tk } ∧ IsItemIter h it d i kvs.length ep ok ov ∧ h.DictAt knd d kvs ep ∧ Fr h₀ env.locals h m ∧ J i m h ∧ i ≤ kvs.length ∧ n = kvs.length + 1 - i) ?_ (kvs.length + 1)
    ⟨s.heap, s.toks, m, 0, ok, ov, rfl, hit, hm, F, h0, Nat.zero_le _, rfl⟩
  rintro n s' ⟨h, tk, m₁, i, ok₁, ov₁, rfl, hit₁, hm₁, F₁, hj, hi, rfl⟩
  cases hv : kvs[i]? with
  | none =>
    have hsz : i = kvs.length := Nat.le_antisymm hi (by simpa using hv)
    refine wpAny_pyNext_items_end hh hit₁ hm₁ hv fun h₁ he₁ => wpAny_execs_nil ?_
    have k : ∀ b o, b ≠ it → b ≠ env.locals → h.get? b = some o → h₁.get? b = some o := fun b o hb _ e => he₁ b o hb e
    exact done m₁ h₁ tk (hsz ▸ hJ i m₁ h h₁ hj k) (mvF h h₁ m₁ F₁ k m₁ (F₁.ns.extBut he₁ (Ne.symm hiL))) (hm₁.at' fun o e => k _ _ hdi hdL e)
  | some kv =>
    obtain ⟨k, v⟩ := kv
    have hlt : i < kvs.length := (List.getElem?_eq_some_iff.mp hv).1
    refine nextPair hh hxk hxv hp hit₁ hm₁ hv F₁.ns hiL fun key h₁ tk₁ hkey hn₁ hit₂ hk₁ => ?_
    refine wpAny_mono (turn i k v key m₁ h₁ tk₁ _ hv hkey (hJ i m₁ h h₁ hj hk₁) (mvF h h₁ m₁ F₁ hk₁ _ hn₁) hit₂ (hm₁.at' fun o e => hk₁ _ _ hdi hdL e)) (fun f s₃ h₃ => ?_) fun _ _ e => e
    cases f with
    | next =>
      obtain ⟨h', tk', m', rfl, F', kI, kd, hj'⟩ := h₃
      exact ⟨kvs.length + 1 - (i + 1), by omega, h', tk', m', i + 1, key, v, rfl, kI, (hm₁.at' fun o e => kd.trans (hk₁ _ _ hdi hdL e)), F', hj', hlt, rfl⟩
    | cont =>
      obtain ⟨h', tk', m', rfl, F', kI, kd, hj'⟩ := h₃
      exact ⟨kvs.length + 1 - (i + 1), by omega, h', tk', m', i + 1, key, v, rfl, kI, (hm₁.at' fun o e => kd.trans (hk₁ _ _ hdi hdL e)), F', hj', hlt, rfl⟩
    | brk => exact h₃
    | ret v => exact h₃
end
end Mine
end
section
open PySem PySem.W
set_option maxRecDepth 100000
namespace Mine
section
variable {α β γ : Type} [DecidableEq α]
def firstsTo (acc l : List α) : List α := l.foldl (fun a x => if x ∈ a then a else a ++ [x]) acc
def firsts (l : List α) : List α := firstsTo [] l
theorem firsts_snoc (l : List α) (x : α) : firsts (l ++ [x]) = if x ∈ firsts l then firsts l else firsts l ++ [x] := by
  show firstsTo [] (l ++ [x]) = if x ∈ firstsTo [] l then firstsTo [] l else firstsTo [] l ++ [x]
  unfold firstsTo
  rw [List.foldl_append]
  rfl
theorem mem_firstsTo (x : α) : ∀ (l acc : List α), x ∈ firstsTo acc l ↔ x ∈ acc ∨ x ∈ l
  | [], acc => by simp [firstsTo]
  | y :: l, acc => by
    have ih := mem_firstsTo x l (if y ∈ acc then acc else acc ++ [y])
    show x ∈ firstsTo (if y ∈ acc then acc else acc ++ [y]) l ↔ _
    rw [ih]
    by_cases h : y ∈ acc
    · rw [if_pos h]
      constructor
      · rintro (h1 | h1)
        · exact .inl h1
        · exact .inr (.tail _ h1)
      · rintro (h1 | h1)
        · exact .inl h1
        · rcases List.mem_cons.mp h1 with rfl | h1
          · exact .inl h
          · exact .inr h1
    · rw [if_neg h, List.mem_append, List.mem_singleton, List.mem_cons, or_assoc]
theorem mem_firsts (x : α) (l : List α) : x ∈ firsts l ↔ x ∈ l := by
  rw [firsts, mem_firstsTo]; simp
theorem nodup_firstsTo : ∀ (l acc : List α), acc.Nodup → (firstsTo acc l).Nodup
  | [], acc, h => h
  | y :: l, acc, h => by
    show (firstsTo (if y ∈ acc then acc else acc ++ [y]) l).Nodup
    refine nodup_firstsTo l _ ?_
    by_cases q : y ∈ acc
    · rw [if_pos q]; exact h
    · rw [if_neg q, List.nodup_append]
      refine ⟨h, by simp, ?_⟩
      intro a ha b hb e
      rw [List.mem_singleton] at hb
      subst hb; subst e; exact q ha
theorem nodup_firsts (l : List α) : (firsts l).Nodup := nodup_firstsTo l [] List.nodup_nil
theorem firsts_len (l : List α) : (firsts l).length ≤ l.length := by
  have key : ∀ (l acc : List α), (firstsTo acc l).length ≤ acc.length + l.length := by
    intro l
    induction l with
    | nil => intro acc; simp [firstsTo]
    | cons y l ih =>
      intro acc
      show (firstsTo (if y ∈ acc then acc else acc ++ [y]) l).length ≤ _
      have := ih (if y ∈ acc then acc else acc ++ [y])
      by_cases q : y ∈ acc
      · rw [if_pos q] at this ⊢; rw [List.length_cons]; omega
      · rw [if_neg q] at this ⊢; rw [List.length_append, List.length_singleton] at this; rw [List.length_cons]; omega
  have := key l []
  rw [List.length_nil, Nat.zero_add] at this
  exact this
/-- a table by key: for each key, in the order of its first coming, what its own rows give -/
def tab (key : β → α) (F : α → List β → γ) (evs : List β) : List (α × γ) := (firsts (evs.map key)).map fun i => (i, F i (evs.filter fun e => decide (key e = i)))
def storeG (kvs : List (α × γ)) (k : α) (v : γ) : List (α × γ) :=
  if kvs.any (fun kv => decide (kv.1 = k)) then kvs.map (fun kv => if kv.1 = k then (kv.1, v) else kv) else kvs ++ [(k, v)]
def findG (kvs : List (α × γ)) (k : α) : Option γ := (kvs.find? fun kv => decide (kv.1 = k)).map (·.2)
theorem any_tab (key : β → α) (F : α → List β → γ) (evs : List β) (k : α) : ((tab key F evs).any fun kv => decide (kv.1 = k)) = decide (k ∈ evs.map key) := by
  rw [Bool.eq_iff_iff, List.any_eq_true, decide_eq_true_iff, ← mem_firsts]
  constructor
  · rintro ⟨kv, hm, e⟩
    obtain ⟨i, hi, rfl⟩ := List.mem_map.mp hm
    have := of_decide_eq_true e
    exact this ▸ hi
  · intro h
    exact ⟨_, List.mem_map.mpr ⟨k, h, rfl⟩, decide_eq_true rfl⟩
theorem filter_ne_snoc (key : β → α) (evs : List β) (e : β) {i : α} (h : key e ≠ i) : ((evs ++ [e]).filter fun x => decide (key x = i)) = evs.filter fun x => decide (key x = i) := by
  rw [List.filter_append]; simp [h]
theorem filter_eq_snoc (key : β → α) (evs : List β) (e : β) : ((evs ++ [e]).filter fun x => decide (key x = key e)) = (evs.filter fun x => decide (key x = key e)) ++ [e] := by
  rw [List.filter_append]; simp
theorem tab_snoc (key : β → α) (F : α → List β → γ) (evs : List β) (e : β) :
    tab key F (evs ++ [e]) = storeG (tab key F evs) (key e) (F (key e) ((evs.filter fun x => decide (key x = key e)) ++ [e])) := by
  unfold storeG
  rw [any_tab]
  have hm : (evs ++ [e]).map key = evs.map key ++ [key e] := by simp
  unfold tab
  rw [hm, firsts_snoc]
  by_cases h : key e ∈ evs.map key
  · rw [if_pos ((mem_firsts _ _).mpr h), if_pos (by simpa using h), List.map_map]
    refine List.map_congr_left fun i _ => ?_
    show _ = if i = key e then _ else _
    by_cases q : i = key e
    · subst q; rw [if_pos rfl, filter_eq_snoc]
    · rw [if_neg q, filter_ne_snoc key evs e (Ne.symm q)]
  · rw [if_neg (fun x => h ((mem_firsts _ _).mp x)), if_neg (by simpa using h), List.map_append]
    congr 1
    · refine List.map_congr_left fun i hi => ?_
      have q : key e ≠ i := fun q => h (q ▸ (mem_firsts _ _).mp hi)
      rw [filter_ne_snoc key evs e q]
    · simp only [List.map_cons, List.map_nil]
      rw [filter_eq_snoc]
theorem find_map_key (f : α → γ) (k : α) : ∀ l : List α, findG (l.map fun i => (i, f i)) k = if k ∈ l then some (f k) else none
  | [] => by simp [findG]
  | a :: l => by
    have ih := find_map_key f k l
    unfold findG at ih ⊢
    rw [List.map_cons, List.find?_cons]
    by_cases h : a = k
    · subst h; simp
    · simp only [decide_eq_false h]
      rw [ih]
      simp [Ne.symm h]
theorem find_tab (key : β → α) (F : α → List β → γ) (evs : List β) (k : α) : findG (tab key F evs) k = if k ∈ evs.map key then some (F k (evs.filter fun e => decide (key e = k))) else none := by
  have := find_map_key (fun i => F i (evs.filter fun e => decide (key e = i))) k (firsts (evs.map key))
  unfold tab
  rw [this]
  simp only [mem_firsts]
/-- the value at a key, with what stands for none -/
theorem find_tab_getD (key : β → α) (F : α → List β → γ) (evs : List β) (k : α) (d : γ) (hd : d = F k []) : (findG (tab key F evs) k).getD d = F k (evs.filter fun e => decide (key e = k)) := by
  rw [find_tab]
  by_cases h : k ∈ evs.map key
  · rw [if_pos h]; rfl
  · rw [if_neg h, hd]
    have : (evs.filter fun e => decide (key e = k)) = [] := by
      rw [List.filter_eq_nil_iff]
      intro e he q
      exact h (List.mem_map.mpr ⟨e, he, of_decide_eq_true q⟩)
    rw [this]; rfl
theorem tab_len (key : β → α) (F : α → List β → γ) (evs : List β) : (tab key F evs).length ≤ evs.length := by
  unfold tab
  rw [List.length_map]
  have := firsts_len (evs.map key)
  rw [List.length_map] at this
  exact this
theorem tab_sum (key : β → α) (evs : List β) : ((tab key (fun _ l => (l.length : Int)) evs).map (·.2)).sum = (evs.length : Int) := by
  have ones : ∀ (S : List α) (k : α), S.Nodup → k ∈ S → (S.map fun i => if k = i then (1 : Int) else 0).sum = 1 := by
    intro S k
    induction S with
    | nil => intro _ h; cases h
    | cons a S ih =>
      intro hn hk
      rw [List.nodup_cons] at hn
      rw [List.map_cons, List.sum_cons]
      by_cases h : k = a
      · subst h
        rw [if_pos rfl]
        have : (S.map fun i => if k = i then (1 : Int) else 0) = S.map fun _ => 0 := List.map_congr_left fun i hi => if_neg fun (q : k = i) => hn.1 (by rw [q]; exact hi)
        rw [this]
        have z : ∀ S : List α, (S.map fun _ => (0 : Int)).sum = 0 := fun S => by induction S <;> simp_all
        rw [z]; rfl
      · rw [if_neg h, ih hn.2 (by rcases List.mem_cons.mp hk with q | q; exact absurd q h; exact q)]; rfl
  have gen : ∀ (evs : List β) (S : List α), S.Nodup → (∀ e ∈ evs, key e ∈ S) → (S.map fun i => ((evs.filter fun e => decide (key e = i)).length : Int)).sum = (evs.length : Int) := by
    intro evs
    induction evs with
    | nil =>
      intro S _ _
      simp only [List.filter_nil, List.length_nil]
      induction S with
      | nil => rfl
      | cons a S ih => simp_all
    | cons e evs ih =>
      intro S hn hk
      have h1 := ones S (key e) hn (hk e (.head _))
      have h2 := ih S hn fun x hx => hk x (.tail _ hx)
      have h3 : ∀ S : List α, (S.map fun i => (((e :: evs).filter fun e => decide (key e = i)).length : Int)).sum = (S.map fun i => if key e = i then (1 : Int) else 0).sum + (S.map fun i => ((evs.filter fun e => decide (key e = i)).length : Int)).sum := by
        intro S
        induction S with
        | nil => rfl
        | cons a S ih =>
          simp only [List.map_cons, List.sum_cons]
          rw [ih]
          by_cases q : key e = a
          · simp [q]; omega
          · simp [q]; omega
      rw [h3, h1, h2, List.length_cons]
      omega
  have := gen evs (firsts (evs.map key)) (nodup_firsts _) fun e he => (mem_firsts _ _).mpr (List.mem_map.mpr ⟨e, he, rfl⟩)
  unfold tab
  rw [List.map_map]
  exact this
end
/-- one entry of the profile -/
structure Ent where
  o : Int
  m : Int
  s : Int
  q : Int
  tb : List (Fin 5 × Int)
abbrev Ev := Fin 5 × Fin 5 × Int
def callTab (sub : List Ev) : List (Fin 5 × Int) := tab (fun e : Ev => e.2.1) (fun _ l => (l.length : Int)) sub
def entOf (i : Fin 5) (sub : List Ev) : Ent := ⟨((sub.filter fun e => decide (e.2.1 ≠ i)).length : Int), (sub.length : Int), (sub.map fun e => e.2.2).sum, (sub.map fun e => e.2.2 * e.2.2).sum, callTab sub⟩
def profOf (evs : List Ev) : List (Fin 5 × Ent) := tab (fun e : Ev => e.1) entOf evs
def entAdd (e : Ent) (ev : Ev) : Ent := ⟨(if ev.2.1 = ev.1 then 0 else 1) + e.o, 1 + e.m, ev.2.2 + e.s, ev.2.2 * ev.2.2 + e.q, storeG e.tb ev.2.1 ((findG e.tb ev.2.1).getD 0 + 1)⟩
theorem callTab_snoc (sub : List Ev) (ev : Ev) : callTab (sub ++ [ev]) = storeG (callTab sub) ev.2.1 ((findG (callTab sub) ev.2.1).getD 0 + 1) := by
  unfold callTab
  rw [tab_snoc, find_tab_getD _ _ _ _ 0 (by simp)]
  simp
theorem entOf_snoc (sub : List Ev) (ev : Ev) : entOf ev.1 (sub ++ [ev]) = entAdd (entOf ev.1 sub) ev := by
  unfold entAdd
  simp only [entOf, callTab_snoc, List.filter_append, List.length_append, List.map_append, List.sum_append]
  congr 1
  · by_cases h : ev.2.1 = ev.1
    · simp [h]
    · simp [h]; omega
  · simp; omega
  · simp; omega
  · simp; omega
theorem profOf_snoc (evs : List Ev) (ev : Ev) : profOf (evs ++ [ev]) = storeG (profOf evs) ev.1 (entAdd ((findG (profOf evs) ev.1).getD ⟨0, 0, 0, 0, []⟩) ev) := by
  unfold profOf
  rw [tab_snoc, entOf_snoc, find_tab_getD _ _ _ _ _ (by simp [entOf, callTab, tab, firsts, firstsTo])]
end Mine
end
section
open PySem PySem.W PySem.Calls PyProof.Rows
set_option maxRecDepth 100000
namespace Mine
def nmS (i : Fin 5) : Str := Txt.item "abcde" (i.val : Int)
theorem nmS_inj : ∀ i j : Fin 5, nmS i = nmS j → i = j := by decide +kernel
theorem eqBool5 {prog : Program} {w : World} {A : Around} {E : Value → Shared → Prop} {s : Shared} {a b : Fin 5} {u v : Value} {Q : Bool → Shared → Prop} (hu : Value.isStrOf (nmS a) u = true) (hv : Value.isStrOf (nmS b) v = true) (h : Q (decide (a = b)) s) :
    wpAny (model prog w) A (PySem.eqBool u v) Q E s := by
  obtain ⟨t, rfl⟩ := Value.isStrOf_shape hu
  obtain ⟨u, rfl⟩ := Value.isStrOf_shape hv
  refine wpAny_eqBool_str ?_
  have e : decide (nmS a = nmS b) = decide (a = b) := by
    by_cases q : a = b
    · subst q; simp
    · rw [decide_eq_false q, decide_eq_false fun x => q (nmS_inj _ _ x)]
  rw [e]; exact h
def k5 (prog : Program) (w : World) : KeyKind prog w (Fin 5) where
  is := fun i v => Value.isStrOf (nmS i) v
  hash := fun i => hashStr w (nmS i)
  inj := fun v a b ha hb => nmS_inj _ _ (Value.isStrOf_inj v _ _ ha hb)
  byValue := fun k v h => by obtain ⟨t, rfl⟩ := Value.isStrOf_shape h; rfl
  pyHash := fun hv h => by obtain ⟨t, rfl⟩ := Value.isStrOf_shape hv; exact wpAny_pyHash_str h
  eqBool := fun hu hv h => eqBool5 hu hv h
  «strs» := fun k x t v h => by
    obtain ⟨u, hu⟩ := Value.isStrOf_shape h
    injection hu with hx
    subst hx
    cases v <;> rfl
theorem k5_is {prog : Program} {w : World} (i : Fin 5) (t : Tok) : (k5 prog w).is i (.str (nmS i) t) = true := by
  simp [k5, Value.isStrOf]
theorem k5_shape {prog : Program} {w : World} {i : Fin 5} {v : Value} (h : (k5 prog w).is i v = true) : ∃ t, v = .str (nmS i) t := Value.isStrOf_shape h
section
variable {α γ : Type} [DecidableEq α]
abbrev TabIs (R : Value → γ → Prop) (kvs : List (α × Value)) (tb : List (α × γ)) : Prop := Paired (fun kv p => kv.1 = p.1 ∧ R kv.2 p.2) kvs tb
theorem TabIs.any {R : Value → γ → Prop} {kvs : List (α × Value)} {tb : List (α × γ)} (k : α) (h : TabIs R kvs tb) : (kvs.any fun kv => decide (kv.1 = k)) = tb.any fun kv => decide (kv.1 = k) := by
  induction h with
  | nil => rfl
  | cons h1 _ ih => rw [List.any_cons, List.any_cons, ih, h1.1]
theorem TabIs.stored {R : Value → γ → Prop} {kvs : List (α × Value)} {tb : List (α × γ)} {k : α} {v : Value} {x : γ} (h : TabIs R kvs tb) (hv : R v x) : TabIs R (PySem.stored kvs k v) (storeG tb k x) := by
  unfold PySem.stored storeG
  rw [TabIs.any k h]
  split
  · rename_i q
    clear q
    induction h with
    | nil => exact .nil
    | cons h1 _ ih =>
      refine .cons ?_ ih
      dsimp only
      rw [h1.1]
      split
      · exact ⟨rfl, hv⟩
      · exact ⟨h1.1, h1.2⟩
  · exact Paired.snoc h ⟨rfl, hv⟩
theorem TabIs.find {R : Value → γ → Prop} {kvs : List (α × Value)} {tb : List (α × γ)} (k : α) (h : TabIs R kvs tb) : (valueAt kvs k = none ∧ findG tb k = none) ∨ ∃ v x, valueAt kvs k = some v ∧ findG tb k = some x ∧ R v x := by
  induction h with
  | nil => exact .inl ⟨rfl, rfl⟩
  | @cons a b l1 l2 h1 _ ih =>
    unfold valueAt findG at ih ⊢
    rw [List.find?_cons, List.find?_cons, h1.1]
    by_cases q : b.1 = k
    · rw [decide_eq_true q]
      exact .inr ⟨_, _, rfl, rfl, h1.2⟩
    · rw [decide_eq_false q]
      exact ih
theorem TabIs.mono {R R' : Value → γ → Prop} {kvs : List (α × Value)} {tb : List (α × γ)} (h : TabIs R kvs tb) (f : ∀ v x, R v x → R' v x) : TabIs R' kvs tb := Paired.mono (fun _ _ q => ⟨q.1, f _ _ q.2⟩) h
/-- what a copy, key by key, has come to -/
theorem stored_take {kvs : List (α × Value)} {i : Nat} {k : α} {v : Value} (hn : (kvs.map (·.1)).Nodup) (hv : kvs[i]? = some (k, v)) : PySem.stored (kvs.take i) k v = kvs.take (i + 1) := by
  have hlt : i < kvs.length := (List.getElem?_eq_some_iff.mp hv).1
  have hnot : ((kvs.take i).any fun kv => decide (kv.1 = k)) = false := by
    rw [Bool.eq_false_iff]
    intro h
    obtain ⟨kv, hm, e⟩ := List.any_eq_true.mp h
    have e := of_decide_eq_true e
    rw [← List.take_append_drop i kvs, List.map_append, List.nodup_append] at hn
    refine hn.2.2 kv.1 (List.mem_map.mpr ⟨kv, hm, rfl⟩) k (List.mem_map.mpr ⟨(k, v), ?_, rfl⟩) e
    have : (kvs.drop i)[0]? = some (k, v) := by rw [List.getElem?_drop]; simpa using hv
    exact List.mem_of_getElem? this
  unfold PySem.stored
  rw [hnot]
  simp only [Bool.false_eq_true, if_false]
  rw [List.take_add_one, hv]
  rfl
end
/-- a value that is this int -/
def IntIs (v : Value) (x : Int) : Prop := ∃ t, v = .int x t
def CallIs (prog : Program) (w : World) (h : Heap) (d : Addr) (tb : List (Fin 5 × Int)) : Prop := ∃ kvs ep, h.DictAt (k5 prog w) d kvs ep ∧ TabIs IntIs kvs tb ∧ (d == sysModules) = false
/-- an entry, borne by the objects named -/
def EntIs (prog : Program) (w : World) (sup : List (Addr × Obj)) (v : Value) (e : Ent) : Prop := ∃ a c oc kvs t1 t2 t3 t4, v = .ref a ∧ (a, tupObj [.int e.o t1, .int e.m t2, .int e.s t3, .int e.q t4, .ref c]) ∈ sup ∧ (c, oc) ∈ sup ∧ oc.IsDictOf (k5 prog w) kvs ∧ TabIs IntIs kvs e.tb ∧ (c == sysModules) = false
theorem EntIs.mono {prog : Program} {w : World} {sup sup' : List (Addr × Obj)} {v : Value} {e : Ent} (h : EntIs prog w sup v e) (hs : ∀ p ∈ sup, p ∈ sup') : EntIs prog w sup' v e :=
  let ⟨a, c, oc, kvs, t1, t2, t3, t4, e1, e2, e3, r⟩ := h; ⟨a, c, oc, kvs, t1, t2, t3, t4, e1, hs _ e2, hs _ e3, r⟩
section
variable {prog : Program} {w : World} {h h' : Heap}
theorem CallIs.keep {d : Addr} {tb : List (Fin 5 × Int)} (c : CallIs prog w h d tb) (k : Keep h h') : CallIs prog w h' d tb := let ⟨kvs, ep, a, b⟩ := c; ⟨kvs, ep, a.keep k, b⟩
theorem CallIs.at {d : Addr} {tb : List (Fin 5 × Int)} (c : CallIs prog w h d tb) (k : ∀ o, h.get? d = some o → h'.get? d = some o) : CallIs prog w h' d tb := let ⟨kvs, ep, a, b⟩ := c; ⟨kvs, ep, a.at' k, b⟩
end
end Mine
end
namespace Mine
theorem turn14 {M : PySem.Model} {A : PySem.Around} {E : PySem.Value → PySem.Shared → Prop} {s : PySem.Shared} {env : PySem.Env} {Q : PySem.Flow → PySem.Shared → Prop} (h : Q .next s) : PySem.wpAny M A (PySem.execs [] env) Q E s := by
  w_top off
  walk1
  exact h
end Mine
section
open PySem PySem.W PyProof.Rows
set_option maxRecDepth 100000
set_option maxHeartbeats 8000000
namespace Mine
section
variable {prog : Program} {w : World} {dp un : Nat} {fr : Option (List Env)} {gd : Option (List Code)} {s : Shared} {p : Program} {loose : List Str} {mean : ExcName → Option Value} {mg mb : Str → Option Value} {Q : Value → Shared → Prop} {E : Value → Shared → Prop}
  {h₀ : Heap}
theorem emptyDict {o : Obj} (h : o.IsDictOf (PySem.strKind prog w) []) : o.IsDictOf (k5 prog w) [] := by
  obtain ⟨es, ep, hc, hd, hk, hp, hn⟩ := h
  have e : es.toList = [] := by
    generalize es.toList = l at hp
    cases hp; rfl
  have e2 : es = #[] := Array.toList_inj.mp e
  subst e2
  exact ⟨_, ep, hc, hd, (fun x hx => by simp at hx), .nil, List.nodup_nil⟩
theorem dictEp {h : Heap} {d : Addr} {K : Type} [DecidableEq K] {knd : KeyKind prog w K} {kvs : List (K × Value)} {o : Obj} (e : h.get? d = some o) (x : o.IsDictOf knd kvs) : h.DictOf knd d kvs := Heap.dictOf_iff.mpr ⟨o, e, x⟩
theorem forItemsN {A : Around} {env : Env} {K : Type} [DecidableEq K] {knd : KeyKind prog w K} {xk xv : Str} {pk pv pt apos cpos pos : Pos} {x1 : Nat} {o : Expr} {body : List Stmt} {d : Addr} {ep : Nat} {kvs : List (K × Value)} {m : Str → Option Value} {Q : Flow → Shared → Prop}
    (hh : A.handled = none) (hxk : env.kindOf xk = some .local) (hxv : env.kindOf xv = some .local) (hp : (env.scope.kind == .class || (env.scope.kind == .module && env.locals != env.globals)) = false)
    (hdS : (d == sysModules) = false) (hm : s.heap.DictAt knd d kvs ep) (F : Fr h₀ env.locals s.heap m) (hdL : d ≠ env.locals)
    (hbase : attributeBase o "items" env (eval o env) = eval o env) (hline : (apos.endLine == cpos.line) = true)
    (ho : ∀ Q', Q' (.ref d) s → wpAny (model prog w) A (eval o env) Q' E s)
    (J : Nat → (Str → Option Value) → Heap → Prop) (hJ : ∀ I i m h h', s.heap.get? I = none → J i m h → (∀ b o, b ≠ I → b ≠ env.locals → h.get? b = some o → h'.get? b = some o) → J i m h')
    (h0 : ∀ h', Keep s.heap h' → J 0 m h')
    (turn : ∀ I i k v key m₁ h tk oI, s.heap.get? I = none → kvs[i]? = some (k, v) → knd.is k key = true → J i m₁ h → Fr h₀ env.locals h (fun z => if z = xv then some v else if z = xk then some key else m₁ z) → h.get? I = some oI → h₀.get? I = none → @Ne Nat I env.locals → h.DictAt knd d kvs ep →
      wpAny (model prog w) A (execs body env) (fun f s₃ => match f with
          | .next | .cont => Hold (∃ h' tk' m', s₃ = { s with heap := h', toks := tk' } ∧ Fr h₀ env.locals h' m' ∧ h'.get? I = some oI ∧ h'.get? d = h.get? d ∧ J (i + 1) m' h')
          | .brk => Q .next s₃
          | .ret v => Q (.ret v) s₃) (notedBy (model prog w) A env fun e s' => cameBackBy (model prog w) A env E e s') { s with heap := h, toks := tk })
    (done : ∀ m' h tk, J kvs.length m' h → Fr h₀ env.locals h m' → h.DictAt knd d kvs ep → Q .next { s with heap := h, toks := tk })
    (hs : ∀ x, foldedSetIterable (.Call (.Attribute o "items" apos) [] [] cpos) env x = pure x := by intro _; rfl) :
    wpAny (model prog w) A (exec (.For (.Tuple [.Name xk pk, .Name xv pv] x1 pt) (.Call (.Attribute o "items" apos) [] [] cpos) body [] pos) env) Q E s := by
  refine wpAny_For (wpAny_Call_items (knd := knd) hdS hm.dictOf hbase hline ho ?_) hs
  refine wpAny_pyIter_items (knd := knd) (d := d) (kvs := kvs) (ep := ep) ⟨_, Heap.get?_push_size _ rfl, rfl, rfl⟩ (hm.push _) ?_
  have hI : s.heap.get? (s.heap.push { cls := .type "dict_items", data := .fields #[.ref d] }).objs.size = none := by
    cases q : s.heap.get? (s.heap.push { cls := .type "dict_items", data := .fields #[.ref d] }).objs.size with
    | none => rfl
    | some o => have := Heap.lt_size q; rw [Heap.size_push] at this; exact absurd this (Nat.not_lt.mpr (Nat.le_succ _))
  have hI0 := freshOf F.keep hI
  have hIL : @Ne Nat (s.heap.push { cls := .type "dict_items", data := .fields #[.ref d] }).objs.size env.locals := fun q => by
    obtain ⟨oL, _, _, hL, _⟩ := F.ns
    rw [show env.locals = (s.heap.push { cls := .type "dict_items", data := .fields #[.ref d] }).objs.size from q.symm, hI] at hL
    cases hL
  have hdI : d ≠ (s.heap.push { cls := .type "dict_items", data := .fields #[.ref d] }).objs.size := fun q => by
    obtain ⟨o, _, ho, _⟩ := hm
    rw [q, hI] at ho; cases ho
  refine forItems (knd := knd) (kvs := kvs) (ep := ep) (d := d) (s := { s with heap := (s.heap.push { cls := .type "dict_items", data := .fields #[.ref d] }).push _ }) hh hxk hxv hp (Heap.get?_push_size _ rfl) ((hm.push _).push _) ((F.push _).push _) hIL hdL hdI hI0 J (fun i m h h' => hJ _ i m h h' hI) (h0 _ fun b o e => Heap.get?_push_of_some _ (Heap.get?_push_of_some _ e)) ?_ done
  intro i k v key m₁ h tk oI hv hkey hj F' hoI hm'
  exact turn _ i k v key m₁ h tk oI hI hv hkey hj F' hoI hI0 hIL hm'
local macro_rules
  | `(tactic| walk_at "exec For Tuple Call cons nil") => `(tactic| kfm_turns)
  | `(tactic| walk_at "eval Name") => `(tactic| kpt_turns)
  | `(tactic| walk_at "compareOp In str ref") => `(tactic| kfm_turns)
  | `(tactic| walk_at "exec AugAssign Subscript") => `(tactic| kfm_turns)
theorem c_addcallers0 {d1 d2 : Addr} {kvs : List (Fin 5 × Value)} {ep1 ep2 : Nat} {tb : List (Fin 5 × Int)} {c : Fin 5} {tc : Tok} (X : (Mine.K w.params).In s.heap) (T : Top p loose mean mg mb s.heap) (hroom : dp + 20 < recursionLimit)
   (h1 : s.heap.DictAt (k5 prog w) d1 kvs ep1) (hT : TabIs IntIs kvs tb) (hlen : tb.length ≤ 100) (h2 : s.heap.DictAt (k5 prog w) d2 [(c, .int 1 tc)] ep2) (hs1 : (d1 == sysModules) = false) (hs2 : (d2 == sysModules) = false)
   (ret : ∀ d h' tk', Keep s.heap h' → s.heap.get? d = none → CallIs prog w h' d (storeG tb c ((findG tb c).getD 0 + 1)) → Q (.ref d) { s with heap := h', toks := tk' }) :
   wpAny (model prog w) (AR dp un fr gd) (call (.ref 88) [.ref d1, .ref d2]) Q E s := by
  w_top off
  refine enter (binds := [("target", .ref d1), ("source", .ref d2)]) X T (by k_is) (by k_is) (by show dp < _; exact room0 hroom) (BindsTo.of_eq rfl) (locs rfl) ?_ rfl rfl rfl (by decide)
  intro L' h₁ F NN
  refine retQ fun Q' E' hQ => ?_
  k_steps
  show wpAny _ _ _ _ _ _
  rename News _ _ _ _ => N2
  rename Fr _ _ _ _ => F2
  rename Obj.IsDictOf (PySem.strKind prog w) _ _ => D2
  rename_i lp _ oD lo _ _ _ _ hA
  have hp0 : s.heap.get? lp = none := N2.fresh (.head _)
  have hpL : @Ne Nat lp L' := (N2 _ (.head _)).2.1
  have hpD : hA.DictOf (k5 prog w) lp [] := dictEp (N2.get (.head _)) (emptyDict D2)
  have hd1L : @Ne Nat d1 L' := fun q => by
    have := h1.lt_size
    exact absurd (Nat.lt_of_lt_of_le (q ▸ this) F2.above) (Nat.lt_irrefl _)
  have hd2L : @Ne Nat d2 L' := fun q => by
    have := h2.lt_size
    exact absurd (Nat.lt_of_lt_of_le (q ▸ this) F2.above) (Nat.lt_irrefl _)
  have hd1p : @Ne Nat d1 lp := fun q => by
    obtain ⟨o, _, ho, _⟩ := h1
    rw [show d1 = lp from q, hp0] at ho; cases ho
  have hd2p : @Ne Nat d2 lp := fun q => by
    obtain ⟨o, _, ho, _⟩ := h2
    rw [show d2 = lp from q, hp0] at ho; cases ho
  have hlp : ∀ I, hA.get? I = none → lp ≠ I := fun I hI q => by
    rw [← q, N2.get (.head _)] at hI; cases hI
  have hkl : kvs.length ≤ 100 := by rw [hT.length]; exact hlen
  refine forItemsN rfl rfl rfl rfl hs1 (h1.keep F2.keep) F2 hd1L rfl rfl (fun Q' q => nameM F2 rfl rfl rfl q)
    (fun i m h => m "new_callers" = some (.ref lp) ∧ m "source" = some (.ref d2) ∧ h.DictOf (k5 prog w) lp (kvs.take i)) ?_ ?_ ?_ ?_
  · rintro I i m h h' hI ⟨a1, a2, a3⟩ k
    obtain ⟨o, es, ep, ho, r⟩ := a3
    exact ⟨a1, a2, o, es, ep, k _ _ (hlp I hI) hpL ho, r⟩
  · intro h' k
    obtain ⟨o, es, ep, ho, r⟩ := hpD
    exact ⟨rfl, rfl, o, es, ep, k _ _ ho, r⟩
  · rintro I i k v key m₁ h tk oI hI hv hkey ⟨a1, a2, a3⟩ F hoI hI0 hIL hm'
    refine wpAny_execs_cons (wpAny_Assign_Subscript (nameM F rfl rfl rfl (nameM F rfl rfl (v := .ref lp) (by (repeat refine lookNe (by decide) ?_); exact a1) (nameM F rfl rfl rfl ?_))))
    refine wpAny_setItem_pairs (knd := k5 prog w) (s := ⟨_, _, _, _, _⟩) hkey a3 (fun h' hm3 hs3 => ?_) (hsz := by rw [sizeLine_eq]; rw [List.length_take]; omega)
    refine wpAny_execs_nil ⟨_, _, _, rfl, F.change hs3 hpL hp0, (hs3.2 _ (Ne.symm (hlp I hI))).trans hoI, hs3.2 _ hd1p, ?_, ?_, ?_⟩
    · (repeat refine lookNe (by decide) ?_); exact a1
    · (repeat refine lookNe (by decide) ?_); exact a2
    · rw [← stored_take h1.nodup hv]; exact hm3
  · rintro m' h tk ⟨a1, a2, a3⟩ F3 _
    rw [List.take_of_length_le (Nat.le_refl _)] at a3
    dsimp only
    have hlp2 : ∀ I, h.get? I = none → lp ≠ I := fun I hI q => by
      obtain ⟨o, es, ep, ho, r⟩ := a3
      rw [← q, ho] at hI; cases hI
    clear F2 N2 hlp
    refine wpAny_execs_cons (forItemsN (s := ⟨_, _, _, _, _⟩) (kvs := [(c, .int 1 tc)]) rfl rfl rfl rfl hs2 (h2.keep F3.keep) F3 hd2L rfl rfl (fun Q' q => nameM F3 rfl rfl a2 q)
      (fun i m h => m "new_callers" = some (.ref lp) ∧ ((i = 0 ∧ h.DictOf (k5 prog w) lp kvs) ∨ (i = 1 ∧ CallIs prog w h lp (storeG tb c ((findG tb c).getD 0 + 1))))) ?_ ?_ ?_ ?_)
    · rintro I i m h h' hI ⟨a1, a3⟩ k
      refine ⟨a1, ?_⟩
      rcases a3 with ⟨hi, o, es, ep, ho, r⟩ | ⟨hi, a3⟩
      · exact .inl ⟨hi, o, es, ep, k _ _ (hlp2 I hI) hpL ho, r⟩
      · exact .inr ⟨hi, a3.at fun o => k _ _ (hlp2 I hI) hpL⟩
    · intro h' k
      obtain ⟨o, es, ep, ho, r⟩ := a3
      exact ⟨a1, .inl ⟨rfl, o, es, ep, k _ _ ho, r⟩⟩
    · rintro I i k v key m₁ h tk oI hI hv hkey ⟨a1, a3⟩ F hoI hI0 hIL hm'
      have hi : i = 0 := by
        have := (List.getElem?_eq_some_iff.mp hv).1
        simp at this; exact this
      subst hi
      have ekv := Option.some.inj hv
      obtain ⟨rfl, rfl⟩ := Prod.mk.inj ekv
      have a3 : h.DictOf (k5 prog w) lp kvs := by
        rcases a3 with ⟨_, a3⟩ | ⟨hi, _⟩
        · exact a3
        · cases hi
      obtain ⟨o3, ho3, hd3⟩ := Heap.dictOf_iff.mp a3
      have NN : News s.heap L' h [(lp, o3), (I, oI)] := by
        intro p hp
        rcases List.mem_cons.mp hp with rfl | hp
        · exact ⟨ho3, hpL, hp0⟩
        · rw [List.mem_singleton.mp hp]; exact ⟨hoI, hIL, hI0⟩
      have hpI' : @Ne Nat lp I := hlp2 I hI
      have hd2I : @Ne Nat d2 I := fun q => by
        obtain ⟨o, _, ho, _⟩ := h2
        rw [show d2 = I from q, hI0] at ho; cases ho
      obtain ⟨tf, rfl⟩ := k5_shape hkey
      k_steps
      show wpAny _ _ _ _ _ _
      refine wpAny_in_of (s := ⟨_, _, _, _, _⟩) (knd := k5 prog w) (k := c) (k5_is _ _) lo a3.mapOf ?_
      rcases hT.find c with ⟨q1, q2⟩ | ⟨v, x, q1, q2, ⟨tv, rfl⟩⟩
      · simp only [q1, Option.isSome_none]
        k_steps
        refine wpAny_setItem_pairs (knd := k5 prog w) (k := c) (s := ⟨_, _, _, _, _⟩) (k5_is _ _) a3 (fun h' hm3 hs3 => ?_) (hsz := by rw [sizeLine_eq]; omega)
        refine wpAny_execs_nil (wpAny_execs_nil ⟨_, _, _, rfl, F.change hs3 hpL hp0, (hs3.2 _ (Ne.symm hpI')).trans hoI, hs3.2 _ hd2p, ?_, .inr ⟨by trivial, ?_⟩⟩)
        · (repeat refine lookNe (by decide) ?_); exact a1
        · obtain ⟨ep, hm4⟩ := hm3.dictAt
          exact ⟨_, ep, hm4, hT.stored ⟨_, by rw [q2]; rfl⟩, lo⟩
      · simp only [q1, Option.isSome_some]
        k_steps
        show wpAny _ _ _ _ _ _
        refine wpAny_AugAssign_Subscript (nameM F rfl rfl (v := .ref lp) (by (repeat refine lookNe (by decide) ?_); exact a1) (nameM F rfl rfl rfl ?_))
        refine wpAny_getItem_of (s := ⟨_, _, _, _, _⟩) (knd := k5 prog w) (k := c) (k5_is _ _) a3.mapOf q1 ?_
        refine nameM F rfl rfl rfl ?_
        refine iadd_int ?_
        refine wpAny_setItem_pairs (knd := k5 prog w) (k := c) (s := ⟨_, _, _, _, _⟩) (k5_is _ _) a3 (fun h' hm3 hs3 => ?_) (hsz := by rw [sizeLine_eq]; omega)
        refine wpAny_execs_nil (wpAny_execs_nil (wpAny_execs_nil ⟨_, _, _, rfl, F.change hs3 hpL hp0, (hs3.2 _ (Ne.symm hpI')).trans hoI, hs3.2 _ hd2p, ?_, .inr ⟨by trivial, ?_⟩⟩))
        · (repeat refine lookNe (by decide) ?_); exact a1
        · obtain ⟨ep, hm4⟩ := hm3.dictAt
          exact ⟨_, ep, hm4, hT.stored ⟨_, by rw [q2]; rfl⟩, lo⟩
    · rintro m4 h4 tk4 ⟨a4, a5⟩ F4 _
      dsimp only
      have a5 : CallIs prog w h4 lp (storeG tb c ((findG tb c).getD 0 + 1)) := by
        rcases a5 with ⟨hi, _⟩ | ⟨_, a5⟩
        · cases hi
        · exact a5
      k_steps
      exact hQ _ _ (ret _ _ _ F4.keep hp0 a5)
end
end Mine
end
namespace Mine
theorem turn15 {M : PySem.Model} {A : PySem.Around} {E : PySem.Value → PySem.Shared → Prop} {s : PySem.Shared} {env : PySem.Env} {Q : PySem.Flow → PySem.Shared → Prop} (h : Q .next s) : PySem.wpAny M A (PySem.execs [] env) Q E s := by
  w_top off
  walk1
  exact h
end Mine
section
open PySem PySem.W PyProof.Rows
set_option maxRecDepth 100000
set_option maxHeartbeats 8000000
namespace Mine
section
variable {prog : Program} {w : World} {dp un : Nat} {fr : Option (List Env)} {gd : Option (List Code)} {s : Shared} {p : Program} {loose : List Str} {mean : ExcName → Option Value} {mg mb : Str → Option Value} {Q : Value → Shared → Prop} {E : Value → Shared → Prop}
  {h₀ : Heap}
theorem callValues {A : Around} {env : Env} {K : Type} [DecidableEq K] {knd : KeyKind prog w K} {o : Expr} {apos pos : Pos} {d : Addr} {kvs : List (K × Value)} {Q : Value → Shared → Prop} (hdS : (d == sysModules) = false) (hm : s.heap.DictOf knd d kvs)
    (hbase : attributeBase o "values" env (eval o env) = eval o env) (hline : (apos.endLine == pos.line) = true)
    (ho : ∀ Q', Q' (.ref d) s → wpAny (model prog w) A (eval o env) Q' E s)
    (hQ : Q (.ref s.heap.objs.size) { s with heap := s.heap.push { cls := .type "dict_values", data := .fields #[.ref d] } }) :
    wpAny (model prog w) A (eval (.Call (.Attribute o "values" apos) [] [] pos) env) Q E s := by
  refine wpAny_Call_method (T := "dict") (id := "dict.values") hbase rfl hline F.plainAttrs_dict F.slot_dict_values F.type_dict_values (ho _ ⟨hm.typeIs, hm.mapOf.noDict, ?_⟩)
  show wpAny _ _ (callWith pos (.builtin "dict.values") [.ref d] [] []) Q E s
  exact method_meetsIn F.slot_dict_values F.entry_dict_values rfl (PySem.evalArgs_none ⟨rfl, hm.typeIs, F.args_dict_values_1 _, _, meets_dict_values knd d hdS, ⟨kvs, hm⟩, hQ⟩)
theorem tabGet {γ α : Type} {R : Value → γ → Prop} {kvs : List (α × Value)} {tb : List (α × γ)} (h : Paired (fun kv p => kv.1 = p.1 ∧ R kv.2 p.2) kvs tb) : ∀ {i : Nat} {k : α} {v : Value}, kvs[i]? = some (k, v) → ∃ x, tb[i]? = some (k, x) ∧ R v x := by
  induction h with
  | nil => intro i k v q; simp at q
  | cons h1 _ ih =>
    intro i k v q
    cases i with
    | zero =>
      obtain rfl := Option.some.inj q
      exact ⟨_, congrArg some (by rw [show k = _ from h1.1]), h1.2⟩
    | succ j => exact ih (by simpa using q)
local macro_rules
  | `(tactic| walk_at "exec For Name Call cons nil") => `(tactic| kfm_turns)
  | `(tactic| walk_at "eval Name") => `(tactic| kpt_turns)
theorem c_afs0 {a1 a2 c1 c2 : Addr} {ep ep2 : Nat} {e : Ent} {c : Fin 5} {x1 x2 x3 x4 : Int} {u1 u2 u3 u4 tc t1 t2 t3 t4 : Tok} {kvs : List (Fin 5 × Value)} (X : (Mine.K w.params).In s.heap) (T : Top p loose mean mg mb s.heap) (hroom : dp + 30 < recursionLimit)
   (g1 : s.heap.get? a1 = some (tupObj [.int e.o t1, .int e.m t2, .int e.s t3, .int e.q t4, .ref c1])) (hd1 : s.heap.DictAt (k5 prog w) c1 kvs ep) (hT : TabIs IntIs kvs e.tb) (hs1 : (c1 == sysModules) = false) (hlen : e.tb.length ≤ 100)
   (h2 : s.heap.get? a2 = some (tupObj [.int x1 u1, .int x2 u2, .int x3 u3, .int x4 u4, .ref c2])) (hd2 : s.heap.DictAt (k5 prog w) c2 [(c, .int 1 tc)] ep2) (hs2 : (c2 == sysModules) = false)
   (ret : ∀ a d od kv3 z1 z2 z3 z4 h' tk', Keep s.heap h' → s.heap.get? a = none → s.heap.get? d = none → h'.get? a = some (tupObj [.int (x1 + e.o) z1, .int (x2 + e.m) z2, .int (x3 + e.s) z3, .int (x4 + e.q) z4, .ref d]) → h'.get? d = some od → od.IsDictOf (k5 prog w) kv3 → TabIs IntIs kv3 (storeG e.tb c ((findG e.tb c).getD 0 + 1)) → (d == sysModules) = false → Q (.ref a) { s with heap := h', toks := tk' }) :
   wpAny (model prog w) (AR dp un fr gd) (call (.ref 81) [.ref a1, .ref a2]) Q E s := by
  w_top off
  refine enter (binds := [("target", .ref a1), ("source", .ref a2)]) X T (by k_is) (by k_is) (by show dp < _; exact room0 hroom) (BindsTo.of_eq rfl) (locs rfl) ?_ rfl rfl rfl (by decide)
  intro L' h₁ F NN
  refine retQ fun Q' E' hQ => ?_
  have i1 : s.heap.IsTuple a1 #[.int e.o t1, .int e.m t2, .int e.s t3, .int e.q t4, .ref c1] := ⟨_, g1, rfl, _, rfl⟩
  have i2 : s.heap.IsTuple a2 #[.int x1 u1, .int x2 u2, .int x3 u3, .int x4 u4, .ref c2] := ⟨_, h2, rfl, _, rfl⟩
  k_steps
  rename Fr _ _ _ _ => F2
  rename News _ _ _ _ => N2
  refine c_addcallers0 (s := ⟨_, _, _, _, _⟩) (X.keeps F2.keep) (T.keeps F2.keep) (by show dp + 21 < _; exact roomK hroom (by decide)) (hd1.keep F2.keep) hT hlen (hd2.keep F2.keep) hs1 hs2 ?_
  intro d h3 tk3 k3 n3 C3
  obtain ⟨kv3, ep3, D3, T3, z3⟩ := id C3
  obtain ⟨o3, es3, g3, r3⟩ := id D3
  have N3 := newsAdd F2 N2 k3 n3 g3
  have F3 := frKeep F2 k3
  clear F2 N2
  k_steps
  rename Fr _ _ _ _ => F4
  rename News _ _ _ _ => N4
  exact hQ _ _ (ret _ _ _ _ _ _ _ _ _ _ F4.keep (N4.fresh (.head _)) (N4.fresh (by k_mem)) (N4.get (.head _)) (N4.get (by k_mem)) ⟨es3, ep3, r3⟩ T3 z3)
theorem c_ccalls0 {d : Addr} {tb : List (Fin 5 × Int)} (X : (Mine.K w.params).In s.heap) (T : Top p loose mean mg mb s.heap) (hroom : dp + 20 < recursionLimit) (hC : CallIs prog w s.heap d tb) (hlen : tb.length ≤ 100)
   (ret : ∀ t h' tk', Keep s.heap h' → Q (.int (tb.map (·.2)).sum t) { s with heap := h', toks := tk' }) :
   wpAny (model prog w) (AR dp un fr gd) (call (.ref 95) [.ref d]) Q E s := by
  obtain ⟨kvs, ep, hd1, hT, hs1⟩ := hC
  refine enter (binds := [("callers", .ref d)]) X T (by k_is) (by k_is) (by show dp < _; exact room0 hroom) (BindsTo.of_eq rfl) (locs rfl) ?_ rfl rfl rfl (by decide)
  intro L' h₁ F NN
  refine retQ fun Q' E' hQ => ?_
  k_steps
  show wpAny _ _ _ _ _ _
  rename Fr _ _ _ _ => F2
  rename News _ _ _ _ => N2
  rename_i hA
  have hdA := hd1.keep F2.keep
  have hdL : @Ne Nat d L' := fun q => absurd (Nat.lt_of_lt_of_le (q ▸ hd1.lt_size) F2.above) (Nat.lt_irrefl _)
  refine wpAny_For (callValues (s := ⟨_, _, _, _, _⟩) (knd := k5 prog w) hs1 hdA.dictOf rfl rfl (fun Q' q => nameM F2 rfl rfl rfl q) ?_) (by intro _; rfl)
  refine wpAny_pyIter_values (knd := k5 prog w) (d := d) (kvs := kvs) (ep := ep) ⟨_, Heap.get?_push_size _ rfl, rfl, rfl⟩ (hdA.push _) ?_
  have hI : hA.get? (hA.push { cls := .type "dict_values", data := .fields #[.ref d] }).objs.size = none := by
    cases q : hA.get? (hA.push { cls := .type "dict_values", data := .fields #[.ref d] }).objs.size with
    | none => rfl
    | some o => have := Heap.lt_size q; rw [Heap.size_push] at this; exact absurd this (Nat.not_lt.mpr (Nat.le_succ _))
  have hI0 := freshOf F2.keep hI
  have hIL : @Ne Nat L' (hA.push { cls := .type "dict_values", data := .fields #[.ref d] }).objs.size := fun q => by
    obtain ⟨oL, _, _, hL, _⟩ := F2.ns
    rw [show L' = (hA.push { cls := .type "dict_values", data := .fields #[.ref d] }).objs.size from q, hI] at hL
    cases hL
  have hdI : d ≠ (hA.push { cls := .type "dict_values", data := .fields #[.ref d] }).objs.size := fun q => by
    obtain ⟨o, _, ho, _⟩ := hdA
    rw [q, hI] at ho; cases ho
  refine forW (s := { s with heap := (hA.push { cls := .type "dict_values", data := .fields #[.ref d] }).push _, toks := _ }) (Walks.dictValues (knd := k5 prog w) rfl _ d hdI kvs ep) rfl rfl ?_ hI0
    (fun i m _ => ∃ t, m "nc" = some (.int ((tb.take i).map (·.2)).sum t)) (fun _ _ _ _ h _ => h) ⟨⟨_, Heap.get?_push_size _ rfl, rfl, rfl⟩, (hdA.push _).push _⟩ ((F2.push _).push _) ⟨_, rfl⟩ ?_ ?_ ?_
  · intro q
    rcases List.mem_cons.mp q with q | q
    · exact hIL q
    · exact hdL (List.mem_singleton.mp q).symm
  · rintro i v m₁ h tk oI hi ⟨k, hk⟩ ⟨t, a1⟩ F hoI
    obtain ⟨x, q1, ⟨tx, rfl⟩⟩ := tabGet hT hk
    clear F2 N2
    generalize (hA.push { cls := .type "dict_values", data := .fields #[.ref d] }).objs.size = I at *
    have NN : News s.heap L' h [(I, oI)] := by
      intro p hp
      rw [List.mem_singleton.mp hp]; exact ⟨hoI, Ne.symm hIL, hI0⟩
    obtain ⟨o1, es1, g1, r1⟩ := id hd1
    have gd1 := F.keep _ _ g1
    k_steps
    refine loadM F rfl rfl (v := .int _ _) (by (repeat refine lookNe (by decide) ?_); exact a1) ?_
    k_steps
    rename Fr _ _ _ _ => F5
    rename News _ _ _ _ => N5
    refine ⟨_, _, _, rfl, F5, ?_, ?_⟩
    · intro b hb o e
      rcases List.mem_cons.mp hb with rfl | hb
      · rw [hoI] at e; cases e; exact N5.get (.head _)
      · rw [List.mem_singleton.mp hb] at e ⊢
        rw [gd1] at e; cases e; exact F5.keep _ _ g1
    · have e : ((tb.take (i + 1)).map (·.2)).sum = ((tb.take i).map (·.2)).sum + x := by
        rw [List.take_add_one, q1, List.map_append, List.sum_append]; simp
      rw [e]
      exact ⟨_, rfl⟩
  · rintro i h ⟨⟨o, ho, _⟩, _⟩
    exact ⟨o, ho⟩
  · rintro m' h tk ⟨t, a1⟩ F
    rw [hT.length, List.take_of_length_le (Nat.le_refl _)] at a1
    dsimp only
    clear F2 N2
    have NN : News s.heap L' h [] := News.nil
    k_steps
    exact hQ _ _ (ret _ _ _ F.keep)
end
end Mine
end
namespace Mine
theorem turn16 {M : PySem.Model} {A : PySem.Around} {E : PySem.Value → PySem.Shared → Prop} {s : PySem.Shared} {env : PySem.Env} {Q : PySem.Flow → PySem.Shared → Prop} (h : Q .next s) : PySem.wpAny M A (PySem.execs [] env) Q E s := by
  w_top off
  walk1
  exact h
end Mine
section
open PySem PySem.W PyProof.Rows
set_option maxRecDepth 100000
set_option maxHeartbeats 8000000
namespace Mine
/-- who has each tick, by whom it is called, its place -/
def evAt (r : List (Fin 5)) (k : Nat) : Ev := (r.getD k 0, r.getD (if k = 0 then r.length - 1 else k - 1) 0, (k : Int))
def evsTo (r : List (Fin 5)) (n : Nat) : List Ev := (List.range n).map (evAt r)
theorem evsTo_succ (r : List (Fin 5)) (n : Nat) : evsTo r (n + 1) = evsTo r n ++ [evAt r n] := by simp [evsTo, List.range_succ]
theorem evsTo_len (r : List (Fin 5)) (n : Nat) : (evsTo r n).length = n := by simp [evsTo]
abbrev nums5 (r : List (Fin 5)) : List Int := r.map fun i => (i.val : Int)
theorem getNum (r : List (Fin 5)) (j : Nat) : (nums5 r).getD j 0 = ((r.getD j 0).val : Int) := by
  rw [List.getD_eq_getElem?_getD, List.getD_eq_getElem?_getD, List.getElem?_map]
  cases r[j]? <;> rfl
theorem fits5 (i : Fin 5) : fitsSsize (i.val : Int) = true := by revert i; decide
theorem low5 (i : Fin 5) : -(("abcde" : Str).length : Int) ≤ (i.val : Int) := by revert i; decide
theorem high5 (i : Fin 5) : (i.val : Int) < (("abcde" : Str).length : Int) := by revert i; decide
section
variable {prog : Program} {w : World} {dp un : Nat} {fr : Option (List Env)} {gd : Option (List Code)} {s : Shared} {p : Program} {loose : List Str} {mean : ExcName → Option Value} {mg mb : Str → Option Value} {Q : Value → Shared → Prop} {E : Value → Shared → Prop}
  {h₀ : Heap}
theorem abcAt {A : Around} {value slice : Expr} {t u : Tok} {i : Fin 5} (h : Q (.str (nmS i) s.toks) { s with toks := s.toks + 1 })
    (hs : subscripted slice false (.str "abcde" t) (.int (i.val : Int) u) = operate [.str "abcde" t, .int (i.val : Int) u] (getItem (.str "abcde" t) (.int (i.val : Int) u)) := by with_unfolding_all rfl)
    (ht : ∀ r, letTemporaryGo value (.str "abcde" t) r = pure () := by intro _; with_unfolding_all rfl) : wpAny (model prog w) A (subscriptTail value slice (.str "abcde" t) (.int (i.val : Int) u)) Q E s :=
  item_str (fits5 i) (low5 i) (high5 i) (fun _ => h) hs ht
theorem prevAt {A : Around} {value slice : Expr} {l : Addr} {vs : List Value} {r : List (Fin 5)} {i : Nat} {u : Tok} (hl : s.heap.IsList l vs.toArray) (hi : IntsAre vs (nums5 r)) (h0 : i < r.length) (h1 : r.length ≤ 8) (h : ∀ t, Q (.int ((r.getD (if i = 0 then r.length - 1 else i - 1) 0).val : Int) t) s)
    (hs : ∀ k, subscripted slice false (.ref l) (.int k u) = operate [.ref l, .int k u] (getItem (.ref l) (.int k u)) := by intro _; with_unfolding_all rfl) (hg : ∀ r, letTemporaryGo value (.ref l) r = pure () := by intro _; with_unfolding_all rfl) : wpAny (model prog w) A (subscriptTail value slice (.ref l) (.int ((i : Int) - 1) u)) Q E s := by
  have hln : (nums5 r).length = r.length := List.length_map _
  by_cases q : i = 0
  · subst q
    refine item_list_ints_neg hl hi (by omega) (by rw [hln]; omega) (by omega) (fun t => ?_) (hs _) hg
    have := h t
    rw [if_pos rfl] at this
    rw [getNum, hln, show ((((0 : Nat) : Int) - 1 + (r.length : Int)).toNat) = r.length - 1 by omega]
    exact this
  · refine item_list_ints hl hi (by omega) (by rw [hln]; omega) (by omega) (fun t => ?_) (hs _) hg
    have := h t
    rw [if_neg q] at this
    rw [getNum, show (((i : Int) - 1).toNat) = i - 1 by omega]
    exact this
theorem itemNm (c : Fin 5) : Txt.item "abcde" (c.val : Int) = nmS c := rfl
theorem eq5 {A : Around} {c o : Fin 5} {t u : Tok} (h : Q (.bool (decide (c = o))) s) : wpAny (model prog w) A (compareOp .Eq (.str (nmS c) t) (.str (nmS o) u)) Q E s := by
  refine P.eq_str ?_
  have e : ((nmS c).cps.toList == (nmS o).cps.toList) = decide (c = o) := by
    by_cases q : c = o
    · subst q; simp
    · rw [decide_eq_false q]
      refine beq_eq_false_iff_ne.mpr fun hl => q (nmS_inj _ _ ?_)
      generalize nmS c = a at *
      generalize nmS o = b at *
      cases a; cases b
      simp only [Str.mk.injEq]
      exact Array.toList_inj.mp hl
  rw [e]; exact h
theorem ifNames {A : Around} {env : Env} {x y : Str} {c o : Fin 5} {t u : Tok} {p1 p2 p3 p4 p5 p6 : Pos} {z1 z2 : Nat}
    (h1 : ∀ Q' : Value → Shared → Prop, Q' (.str (nmS c) t) s → wpAny (model prog w) A (eval (.Name x p1) env) Q' E s) (h2 : ∀ Q' : Value → Shared → Prop, Q' (.str (nmS o) u) s → wpAny (model prog w) A (eval (.Name y p2) env) Q' E s)
    (h : Q (.int (if c = o then 0 else 1) s.toks) { s with toks := s.toks + 1 }) :
    wpAny (model prog w) A (eval (.IfExp (.Compare (.Name x p1) [.Eq] [.Name y p2] p3) (.Constant (.int 0) z1 p4) (.Constant (.int 1) z2 p5) p6) env) Q E s := by
  refine wpAny_IfExp (wpAny_isTrue_Compare1 (h1 _ (h2 _ (eq5 (wpAny_truthy_bool ?_)))))
  by_cases q : c = o
  · rw [decide_eq_true q, if_pos rfl]; rw [if_pos q] at h; exact wpAny_Constant_int h
  · rw [decide_eq_false q, if_neg (by decide)]; rw [if_neg q] at h; exact wpAny_Constant_int h
theorem ltNe {d : Addr} : ∀ {news : List (Addr × Obj)}, (∀ p ∈ news, p.1 < d) → AllNe d news
  | [], _ => trivial
  | p :: _, h => ⟨Nat.ne_of_lt (h p (.head _)), ltNe fun q hq => h q (.tail _ hq)⟩
theorem dict1 {A : Around} {env : Env} {x : Str} {c : Fin 5} {t : Tok} {p1 p2 p3 : Pos} {z : Nat} {L : Addr} {m : Str → Option Value} {news : List (Addr × Obj)} (F : Fr h₀ L s.heap m) (N : News h₀ L s.heap news) (hbig : h₀.NoLimit)
    (h1 : ∀ (h' : Heap) (Q' : Value → Shared → Prop), Fr h₀ L h' m → Q' (.str (nmS c) t) { s with heap := h' } → wpAny (model prog w) A (eval (.Name x p1) env) Q' E { s with heap := h' })
    (h : ∀ d od h' t' tk', Fr h₀ L h' m → News h₀ L h' ((d, od) :: news) → AllNe d news → (d == sysModules) = false → od.IsDictOf (k5 prog w) [(c, .int 1 t')] → Q (.ref d) { s with heap := h', toks := tk' }) :
    wpAny (model prog w) A (eval (.Dict [some (.Name x p1)] [.Constant (.int 1) z p2] p3) env) Q E s := by
  refine kdn_eval (knd := k5 prog w) F N hbig rfl rfl (by simp) (by simp) fun d h' o F' N' ne lo hd => ?_
  refine evalPairs_cons (h1 h' _ F' (wpAny_bind (wpAny_Constant_int (wpAny_bind (wpAny_standAt (wpAny_pure (evalPairs_nil ?_)))))))
  refine ⟨[(c, .int 1 _)], ⟨k5_is _ _, rfl, trivial⟩, Heap.dictOf_iff.mpr ⟨o, N'.get (.head _), hd⟩, fun h2 hm hs => ?_⟩
  obtain ⟨o2, g2, hd2⟩ := Heap.dictOf_iff.mp hm
  have hm' := N' (d, o) (.head _)
  refine h d o2 h2 _ _ (F'.change hs hm'.2.1 hm'.2.2) ?_ (ltNe ne) lo hd2
  intro q hq
  rcases List.mem_cons.mp hq with rfl | hq
  · exact ⟨g2, hm'.2⟩
  · exact ⟨(hs.2 _ (Nat.ne_of_lt (ne q hq))).trans (N' q (.tail _ hq)).1, (N' q (.tail _ hq)).2⟩
theorem getK {A : Around} {env : Env} {o x y : Expr} {apos pos : Pos} {d : Addr} {kvs : List (Fin 5 × Value)} (hdS : (d == sysModules) = false) (hm : s.heap.DictOf (k5 prog w) d kvs)
    (hbase : attributeBase o "get" env (eval o env) = eval o env) (hline : (apos.endLine == pos.line) = true) (htrees : backTo pos (starEach [x, y] env) = [(false, eval x env), (false, eval y env)])
    (ho : ∀ Q' : Value → Shared → Prop, Q' (.ref d) s → wpAny (model prog w) A (eval o env) Q' E s)
    (h : wpAny (model prog w) A (eval x env) (fun key s₁ => wpAny (model prog w) A (eval y env) (fun dflt s₂ => Hold (∃ k kv, (k5 prog w).is k key = true ∧ s₂.heap.DictOf (k5 prog w) d kv ∧ Q ((valueAt kv k).getD dflt) { s₂ with toks := s₂.toks + 1 })) E s₁) E s) :
    wpAny (model prog w) A (eval (.Call (.Attribute o "get" apos) [x, y] [] pos) env) Q E s :=
  wpAny_Call_method2_late hbase hline htrees (ho _ ⟨"dict", "dict.get", F.plainAttrs_dict, F.slot_dict_get, F.type_dict_get, hm.typeIs, hm.mapOf.noDict,
    wpAny_dict_get2 (knd := k5 prog w) hdS (wpAny_mono h (fun _ _ h₁ => wpAny_mono h₁ (fun _ _ ⟨k, kv, hk, kp, q⟩ => ⟨k, _, hk, kp.mapOf, q⟩) fun _ _ e => e) fun _ _ e => e)⟩)
local macro_rules
  | `(tactic| walk_at "eval Call Attribute") => `(tactic| kfm_turns)
  | `(tactic| walk_at "subscriptTail Name BinOp ref int") => `(tactic| kfm_turns)
  | `(tactic| walk_at "eval IfExp") => `(tactic| kfm_turns)
  | `(tactic| walk_at "eval Dict cons cons") => `(tactic| kfm_turns)
  | `(tactic| walk_at "exec For Name Call cons nil") => `(tactic| kfm_turns)
  | `(tactic| walk_at "pyIter ref") => `(tactic| kfm_turns)
  | `(tactic| walk_at "eval Name") => `(tactic| kpt_turns)
/-- between the turns of the profile's loop -/
inductive PfI (prog : Program) (w : World) (lp lo I : Addr) (h₀ : Heap) (L : Addr) (r : List (Fin 5)) (i : Nat) (m : Str → Option Value) (h : Heap) : Prop
  | mk (od : Obj) (kvs : List (Fin 5 × Value)) (sup : List (Addr × Obj)) (a1 : m "profile" = some (.ref lp)) (a2 : m "owners" = some (.ref lo)) (a3 : od.IsDictOf (k5 prog w) kvs) (a4 : TabIs (EntIs prog w sup) kvs (profOf (evsTo r i))) (a5 : News h₀ L h ((lp, od) :: sup)) (a6 : AllNe lp sup) (a7 : AllNe I sup)
theorem c_profile0 {lo_1 : Addr} {vs : List Value} {r : List (Fin 5)} (X : (Mine.K w.params).In s.heap) (T : Top p loose mean mg mb s.heap) (hroom : dp + 40 < recursionLimit)
   (hl : s.heap.IsList lo_1 vs.toArray) (hI : IntsAre vs (nums5 r)) (hr : 1 ≤ r.length ∧ r.length ≤ 8)
   (ret : ∀ d od kvs sup h' tk', Keep s.heap h' → s.heap.get? d = none → h'.get? d = some od → od.IsDictOf (k5 prog w) kvs → TabIs (EntIs prog w sup) kvs (profOf (evsTo r r.length)) → (d == sysModules) = false → (∀ p ∈ sup, h'.get? p.1 = some p.2 ∧ s.heap.get? p.1 = none) → AllNe d sup → Q (.ref d) { s with heap := h', toks := tk' }) :
   wpAny (model prog w) (AR dp un fr gd) (call (.ref 133) [.ref lo_1]) Q E s := by
  w_top off
  have hvl := hI.length
  rw [List.length_map] at hvl
  refine enter (binds := [("owners", .ref lo_1)]) X T (by k_is) (by k_is) (by show dp < _; exact room0 hroom) (BindsTo.of_eq rfl) (locs rfl) ?_ rfl rfl rfl (by decide)
  intro L' h₁ F NN
  refine retQ fun Q' E' hQ => ?_
  k_steps
  show wpAny _ _ _ _ _ _
  refine wpAny_For (hs := by intro _; rfl) ?_
  k_steps
  show wpAny _ _ _ _ _ _
  rename Obj.IsDictOf (PySem.strKind prog w) _ _ => D2
  rename IsRange _ _ _ _ _ _ _ _ => R2
  rename_i lp _ oD lo _ _ _ _ hA FA NA hB _ _ _ _ F2 N2 _
  clear FA NA
  have hp0 : s.heap.get? lp = none := N2.fresh (.head _)
  have hpL : @Ne Nat lp L' := (N2 _ (.head _)).2.1
  have hpI := Heap.lt_size (N2.get (.head _))
  rw [List.length_map] at R2
  refine forRange (n := r.length) rfl F2 R2 rfl (by rw [sizeLine_eq]; omega) rfl rfl
    (PfI prog w lp lo_1 hB.objs.size s.heap L' r) ?_ ?_ ?_ ?_
  · rintro I i m h h' hIs ⟨od, kvs, sup, a1, a2, a3, a4, a5, a6, a7⟩ k
    have hIs : hB.objs.size = I := hIs
    rw [hIs] at hpI
    refine ⟨od, kvs, sup, a1, a2, a3, a4, ?_, a6, a7⟩
    intro q hq
    refine ⟨k _ _ ?_ (a5 q hq).2.1 (a5 q hq).1, (a5 q hq).2⟩
    rcases List.mem_cons.mp hq with rfl | hq
    · exact Nat.ne_of_lt hpI
    · exact hIs ▸ allNe_mem a7 q hq
  · intro h' k
    exact ⟨oD, [], [], rfl, rfl, emptyDict D2, .nil, newsKeep N2 k, trivial, trivial⟩
  · rintro I i t m₁ h tk oI hIs hi ⟨od, kvs, sup, a1, a2, a3, a4, a5, a6, a7⟩ F hoI hI0 hIL
    have hIs : hB.objs.size = I := hIs
    rw [hIs] at a7 hpI
    have hpI' : @Ne Nat lp I := Nat.ne_of_lt hpI
    clear F2 R2 N2
    have NN : News s.heap L' h ((lp, od) :: (I, oI) :: sup) := by
      intro q hq
      rcases List.mem_cons.mp hq with rfl | hq
      · exact a5 _ (.head _)
      rcases List.mem_cons.mp hq with rfl | hq
      · exact ⟨hoI, hIL, hI0⟩
      · exact a5 _ (.tail _ hq)
    have hIs' := hIs
    clear hpI a5
    k_steps
    rw [getNum, Int.toNat_natCast]
    generalize ho : r.getD i 0 = o
    refine abcAt ?_
    k_steps
    show wpAny _ _ _ _ _ _
    refine prevAt (hl.at fun o e => (by assumption : Fr s.heap L' _ _).keep _ _ e) hI hi hr.2 fun t5 => ?_
    generalize hc : r.getD (if i = 0 then r.length - 1 else i - 1) 0 = c
    k_steps
    show wpAny _ _ _ _ _ _
    rename Fr _ _ _ _ => F5
    rename News _ _ _ _ => N5
    simp only [itemNm] at F5
    refine ifNames (fun Q' q => nameM F5 rfl rfl rfl q) (fun Q' q => nameM F5 rfl rfl rfl q) ?_
    have hmul : IntMulOk (i : Int) (i : Int) := IntMulOk.of_right (intBits_le_64 (by omega) (by omega))
    k_steps
    show wpAny _ _ _ _ _ _
    refine dict1 (s := ⟨_, _, _, _, _⟩) F5 N5 T.nolimit (fun h' Q' F' q => nameM F' rfl rfl rfl q) ?_
    intro d2 o2 h6 t6 tk6 F6 N6 l6 z6 D6
    clear F5 N5
    have l6' := l6
    simp only [AllNe] at l6
    k_steps
    show wpAny _ _ _ _ _ _
    rename Fr _ _ _ _ => F7
    rename News _ _ _ _ => N7
    refine getK (s := ⟨_, _, _, _, _⟩) lo (Heap.dictOf_iff.mpr ⟨od, N7.get (by k_mem), a3⟩) rfl rfl rfl (fun Q' q => nameM F7 rfl rfl (v := .ref lp) (by (repeat refine lookNe (by decide) ?_); exact a1) q) ?_
    k_steps
    rename Fr _ _ _ _ => F8
    rename News _ _ _ _ => N8
    rename Obj.IsDictOf (PySem.strKind prog w) _ _ => D8
    rename_i dD _ oDD loD _ _ _ _ DD hh8 _
    refine ⟨o, kvs, k5_is _ _, Heap.dictOf_iff.mpr ⟨od, N8.get (by k_mem), a3⟩, ?_⟩
    have he : ∃ a1 c1 kv1 ep1 t1 t2 t3 t4, (valueAt kvs o).getD (.ref DD) = .ref a1 ∧ hh8.get? a1 = some (tupObj [.int ((findG (profOf (evsTo r i)) o).getD ⟨0, 0, 0, 0, []⟩).o t1, .int ((findG (profOf (evsTo r i)) o).getD ⟨0, 0, 0, 0, []⟩).m t2, .int ((findG (profOf (evsTo r i)) o).getD ⟨0, 0, 0, 0, []⟩).s t3, .int ((findG (profOf (evsTo r i)) o).getD ⟨0, 0, 0, 0, []⟩).q t4, .ref c1]) ∧
        hh8.DictAt (k5 prog w) c1 kv1 ep1 ∧ TabIs IntIs kv1 ((findG (profOf (evsTo r i)) o).getD ⟨0, 0, 0, 0, []⟩).tb ∧ (c1 == sysModules) = false := by
      rcases a4.find o with ⟨q1, q2⟩ | ⟨v, x, q1, q2, ⟨a, c1, oc, kv1, t1, t2, t3, t4, e1, e2, e3, e4, e5, e6⟩⟩
      · rw [q1, q2]
        obtain ⟨es, ep, rr⟩ := emptyDict D8
        exact ⟨DD, dD, [], ep, _, _, _, _, rfl, N8.get (.head _), ⟨oDD, es, N8.get (by k_mem), rr⟩, .nil, loD⟩
      · rw [q1, q2]
        obtain ⟨es, ep, rr⟩ := e4
        exact ⟨a, c1, kv1, ep, t1, t2, t3, t4, e1, N8.get (.tail _ (.tail _ (.tail _ (.tail _ (.tail _ (.tail _ e2)))))), ⟨oc, es, N8.get (.tail _ (.tail _ (.tail _ (.tail _ (.tail _ (.tail _ e3)))))), rr⟩, e5, e6⟩
    have hel : ((findG (profOf (evsTo r i)) o).getD ⟨0, 0, 0, 0, []⟩).tb.length ≤ 100 := by
      unfold profOf
      rw [find_tab_getD _ _ _ _ _ (by simp [entOf, callTab, tab, firsts, firstsTo])]
      have e1 := tab_len (fun e : Ev => e.2.1) (fun _ l => (l.length : Int)) ((evsTo r i).filter fun e => decide (e.1 = o))
      have e2 := List.length_filter_le (fun e : Ev => decide (e.1 = o)) (evsTo r i)
      rw [evsTo_len] at e2
      show (callTab _).length ≤ 100
      unfold callTab
      omega
    have hnext : profOf (evsTo r (i + 1)) = storeG (profOf (evsTo r i)) o (entAdd ((findG (profOf (evsTo r i)) o).getD ⟨0, 0, 0, 0, []⟩) (o, c, (i : Int))) := by
      rw [evsTo_succ, profOf_snoc]
      unfold evAt
      rw [ho, hc]
    generalize (findG (profOf (evsTo r i)) o).getD ⟨0, 0, 0, 0, []⟩ = ent at *
    obtain ⟨a1', c1, kv1, ep1, t1, t2, t3, t4, e1, e2, e3, e4, e5⟩ := he
    rw [e1]
    k_steps
    obtain ⟨es2, ep2, rr2⟩ := D6
    refine c_afs0 (s := ⟨_, _, _, _, _⟩) (c1 := c1) (e := ent) (X.keeps F8.keep) (T.keeps F8.keep) (by show dp + 31 < _; exact roomK hroom (by decide)) e2 e3 e4 e5 hel (N8.get (by k_mem)) ⟨o2, es2, N8.get (by k_mem), rr2⟩ z6 ?_
    intro a9 d9 od9 kv9 z1 z2 z3 z4 h9 tk9 k9 n9 nd9 g9 gd9 D9 T9 lo9
    have F9 := frKeep F8 k9
    have N9 := newsKeep N8 k9
    have la := newsNe n9 N8
    have ld := newsNe nd9 N8
    simp only [AllNe] at la ld
    have M9 : ∀ q, q ∈ sup → News s.heap L' h9 [q] := fun q hq p hp => by
      rw [List.mem_singleton.mp hp]; exact N9 _ (.tail _ (.tail _ (.tail _ (.tail _ (.tail _ (.tail _ hq))))))
    have fa := newsAdd F8 News.nil k9 n9 g9
    have fd := newsAdd F8 News.nil k9 nd9 gd9
    have glp : h9.get? lp = some od := N9.get (by k_mem)
    refine nameM F9 rfl rfl (v := .ref lp) (by (repeat refine lookNe (by decide) ?_); exact a1) (nameM F9 rfl rfl rfl ?_)
    refine wpAny_setItem_pairs (knd := k5 prog w) (k := o) (s := ⟨_, _, _, _, _⟩) (k5_is _ _) (Heap.dictOf_iff.mpr ⟨od, glp, a3⟩) (fun hx hm3 hs3 => ?_) (hsz := ?_)
    · obtain ⟨ox, gx, Dx⟩ := Heap.dictOf_iff.mp hm3
      refine wpAny_execs_nil ⟨_, _, _, rfl, F9.change hs3 hpL hp0, (hs3.2 _ (Ne.symm hpI')).trans (N9.get (by k_mem)), ox, _, (a9, tupObj [.int ((if c = o then 0 else 1) + ent.o) z1, .int (1 + ent.m) z2, .int ((i : Int) + ent.s) z3, .int ((i : Int) * (i : Int) + ent.q) z4, .ref d9]) :: (d9, od9) :: sup, ?_, ?_, Dx, ?_, ?_, ?_, ?_⟩
      · (repeat refine lookNe (by decide) ?_); exact a1
      · (repeat refine lookNe (by decide) ?_); exact a2
      · rw [hnext]
        refine TabIs.stored (a4.mono fun v x q => q.mono fun p hp => .tail _ (.tail _ hp)) ⟨a9, d9, od9, kv9, _, _, _, _, rfl, .head _, .tail _ (.head _), D9, T9, lo9⟩
      · intro q hq
        rcases List.mem_cons.mp hq with rfl | hq
        · exact ⟨gx, hpL, hp0⟩
        rcases List.mem_cons.mp hq with rfl | hq
        · exact ⟨(hs3.2 _ fun e => la.2.2.2.2.1 e.symm).trans g9, (fa _ (.head _)).2⟩
        rcases List.mem_cons.mp hq with rfl | hq
        · exact ⟨(hs3.2 _ fun e => ld.2.2.2.2.1 e.symm).trans gd9, (fd _ (.head _)).2⟩
        · exact ⟨(hs3.2 _ (allNe_mem a6 q hq)).trans (M9 q hq _ (.head _)).1, (M9 q hq _ (.head _)).2⟩
      · exact ⟨Ne.symm la.2.2.2.2.1, Ne.symm ld.2.2.2.2.1, a6⟩
      · rw [hIs']
        exact ⟨Ne.symm la.2.2.2.2.2.1, Ne.symm ld.2.2.2.2.2.1, a7⟩
    · have := tab_len (fun e : Ev => e.1) entOf (evsTo r i)
      rw [evsTo_len] at this
      rw [sizeLine_eq, a4.length]
      show (profOf _).length ≤ _
      unfold profOf
      omega
  · rintro m' h tk ⟨od, kvs, sup, a1, a2, a3, a4, a5, a6, a7⟩ F
    dsimp only
    clear F2 N2 R2
    have NN : News s.heap L' h [(lp, od)] := fun q hq => by
      rw [List.mem_singleton.mp hq]; exact a5 _ (.head _)
    k_steps
    exact hQ _ _ (ret _ _ _ _ _ _ F.keep hp0 (a5 _ (.head _)).1 a3 a4 lo (fun q hq => ⟨(a5 _ (.tail _ hq)).1, (a5 _ (.tail _ hq)).2.2⟩) a6)
end
end Mine
end
namespace Mine
theorem turn17 {M : PySem.Model} {A : PySem.Around} {E : PySem.Value → PySem.Shared → Prop} {s : PySem.Shared} {env : PySem.Env} {Q : PySem.Flow → PySem.Shared → Prop} (h : Q .next s) : PySem.wpAny M A (PySem.execs [] env) Q E s := by
  w_top off
  walk1
  exact h
end Mine
section
open PySem PySem.W PyProof.Rows
set_option maxRecDepth 100000
set_option maxHeartbeats 8000000
namespace Mine
section
variable {prog : Program} {w : World} {dp un : Nat} {fr : Option (List Env)} {gd : Option (List Code)} {s : Shared} {p : Program} {loose : List Str} {mean : ExcName → Option Value} {mg mb : Str → Option Value} {Q : Value → Shared → Prop} {E : Value → Shared → Prop}
  {h₀ : Heap}
/-- for x in (a list), by what holds of the names and of the heap -/
theorem forList {A : Around} {env : Env} {E' : Value → Shared → Prop} {Q : Flow → Shared → Prop} {x : Str} {px : Pos} {body : List Stmt} {l : Addr} {items : Array Value} {m : Str → Option Value} (hh : A.handled = none) (F : Fr h₀ env.locals s.heap m) (hl : s.heap.IsList l items) (hlL : l ≠ env.locals) (hx : env.kindOf x = some .local)
    (hp : (env.scope.kind == .class || (env.scope.kind == .module && env.locals != env.globals)) = false)
    (J : Nat → (Str → Option Value) → Heap → Prop) (hJ : ∀ I i m h h', s.heap.get? I = none → J i m h → (∀ b o, b ≠ I → b ≠ env.locals → h.get? b = some o → h'.get? b = some o) → J i m h')
    (h0 : ∀ h', Keep s.heap h' → J 0 m h')
    (turn : ∀ I i v m₁ h tk oI, s.heap.get? I = none → items[i]? = some v → J i m₁ h → Fr h₀ env.locals h (fun y => if y = x then some v else m₁ y) → h.get? I = some oI → h₀.get? I = none → @Ne Nat I env.locals →
      wpAny (model prog w) A (execs body env) (fun f s₃ => match f with
          | .next | .cont => Hold (∃ h' tk' m', s₃ = { s with heap := h', toks := tk' } ∧ Fr h₀ env.locals h' m' ∧ h'.get? I = some oI ∧ (∀ o, h.get? l = some o → h'.get? l = some o) ∧ J (i + 1) m' h')
          | .brk => Q .next s₃
          | .ret v => Q (.ret v) s₃) (notedBy (model prog w) A env fun e s' => cameBackBy (model prog w) A env E e s') { s with heap := h, toks := tk })
    (done : ∀ m' h tk, J items.size m' h → Fr h₀ env.locals h m' → Q .next { s with heap := h, toks := tk }) :
    wpAny (model prog w) A (pyIter (.ref l)) (fun it s₂ => codeAny (model prog w) A (.forLoop (.Name x px) it body [] env) (fun r s' => match r with | .ok f => Q f s' | .error e => cameBackBy (model prog w) A env E e s') s₂) E' s := by
  refine wpAny_pyIter_list hl ?_
  have hI := sizeNone s.heap
  have hI0 := freshOf F.keep hI
  have hIL : @Ne Nat s.heap.objs.size env.locals := by
    obtain ⟨oL, _, _, hL, _⟩ := F.ns
    exact Nat.ne_of_gt (Heap.lt_size hL)
  have hlt : l < s.heap.objs.size := by obtain ⟨o, ho, _⟩ := hl; exact Heap.lt_size ho
  have hne : l ≠ s.heap.objs.size := Nat.ne_of_lt hlt
  refine forW (s := { s with heap := s.heap.push { cls := .type "list_iterator", data := .fields #[.ref l, .int 0 0] } }) (Walks.list hh s.heap.objs.size l hne items) hx hp ?_ hI0 J (fun i m h h' hj k => hJ _ i m h h' hI hj k) ⟨⟨_, Heap.get?_push_size _ rfl, rfl, rfl⟩, hl.at fun o e => Heap.get?_push_of_some _ e⟩ (F.push _) (h0 _ fun b o e => Heap.get?_push_of_some _ e) ?_ ?_ ?_
  · intro q
    rcases List.mem_cons.mp q with q | q
    · exact hIL q.symm
    · exact hlL (List.mem_singleton.mp q).symm
  · intro i v m₁ h tk oI hi hP hj F' hoI
    refine wpAny_mono (turn _ i v m₁ h tk oI hI hP hj F' hoI hI0 hIL) (fun f s₃ h₃ => ?_) fun _ _ e => e
    cases f with
    | next =>
      obtain ⟨h', tk', m', rfl, F', kI, kl, hj'⟩ := h₃
      refine ⟨h', tk', m', rfl, F', (fun b hb o e => ?_), hj'⟩
      rcases List.mem_cons.mp hb with rfl | hb
      · rw [hoI] at e; cases e; exact kI
      · rw [List.mem_singleton.mp hb] at e ⊢; exact kl o e
    | cont =>
      obtain ⟨h', tk', m', rfl, F', kI, kl, hj'⟩ := h₃
      refine ⟨h', tk', m', rfl, F', (fun b hb o e => ?_), hj'⟩
      rcases List.mem_cons.mp hb with rfl | hb
      · rw [hoI] at e; cases e; exact kI
      · rw [List.mem_singleton.mp hb] at e ⊢; exact kl o e
    | brk => exact h₃
    | ret v => exact h₃
  · rintro i h ⟨⟨o, ho, _⟩, _⟩
    exact ⟨o, ho⟩
  · intro m' h tk hj F'
    exact done m' h tk hj F'
theorem firsts_map {α β : Type} [DecidableEq α] [DecidableEq β] (f : α → β) (hf : ∀ a b, f a = f b → a = b) : ∀ (l acc : List α), firstsTo (acc.map f) (l.map f) = (firstsTo acc l).map f
  | [], acc => rfl
  | y :: l, acc => by
    have ih := firsts_map f hf l (if y ∈ acc then acc else acc ++ [y])
    show firstsTo (if f y ∈ acc.map f then acc.map f else acc.map f ++ [f y]) (l.map f) = (firstsTo (if y ∈ acc then acc else acc ++ [y]) l).map f
    rw [← ih]
    congr 1
    have e : f y ∈ acc.map f ↔ y ∈ acc := by
      constructor
      · intro h
        obtain ⟨z, hz, e⟩ := List.mem_map.mp h
        exact hf _ _ e ▸ hz
      · exact fun h => List.mem_map.mpr ⟨y, h, rfl⟩
    by_cases q : y ∈ acc
    · rw [if_pos q, if_pos (e.mpr q)]
    · rw [if_neg q, if_neg (fun x => q (e.mp x)), List.map_append]; rfl
theorem firsts_nums (r : List (Fin 5)) : firsts (nums5 r) = nums5 (firsts r) :=
  firsts_map (fun i : Fin 5 => (i.val : Int)) (fun a b h => Fin.ext (by exact_mod_cast h)) r []
local macro_rules
  | `(tactic| walk_at "exec For Name Name cons nil") => `(tactic| kfm_turns)
  | `(tactic| walk_at "exec For Name Call cons nil") => `(tactic| kfm_turns)
  | `(tactic| walk_at "pyIter ref") => `(tactic| kfm_turns)
  | `(tactic| walk_at "eval Name") => `(tactic| kpt_turns)
theorem c_firsts0 {lr : Addr} {vs : List Value} {ns : List Int} (X : (Mine.K w.params).In s.heap) (T : Top p loose mean mg mb s.heap) (hroom : dp + 20 < recursionLimit) (hun : un + 100 < cLine)
   (hl : s.heap.IsList lr vs.toArray) (hI : IntsAre vs ns) (hlen : ns.length ≤ 100)
   (ret : ∀ l us ep h' tk', Keep s.heap h' → s.heap.get? l = none → h'.get? l = some (PySem.W.listOf (us : List Value).toArray ep) → IntsAre us (firsts ns) → Q (.ref l) { s with heap := h', toks := tk' }) :
   wpAny (model prog w) (AR dp un fr gd) (call (.ref 140) [.ref lr]) Q E s := by
  w_top off
  have hvl := hI.length
  refine enter (binds := [("row", .ref lr)]) X T (by k_is) (by k_is) (by show dp < _; exact room0 hroom) (BindsTo.of_eq rfl) (locs rfl) ?_ rfl rfl rfl (by decide)
  intro L' h₁ F NN
  refine retQ fun Q' E' hQ => ?_
  k_steps
  show wpAny _ _ _ _ _ _
  rename News _ _ _ _ => N2
  rename Fr _ _ _ _ => F2
  rename_i lp _ _ hA
  have hp0 : s.heap.get? lp = none := N2.fresh (.head _)
  have hpL : @Ne Nat lp L' := (N2 _ (.head _)).2.1
  have hrL : @Ne Nat lr L' := fun q => by
    obtain ⟨o, ho, _⟩ := hl
    exact absurd (Nat.lt_of_lt_of_le (q ▸ Heap.lt_size ho) F2.above) (Nat.lt_irrefl _)
  have hrp : @Ne Nat lr lp := fun q => by
    obtain ⟨o, ho, _⟩ := hl
    rw [show lr = lp from q, hp0] at ho; cases ho
  have hlp : ∀ I, hA.get? I = none → lp ≠ I := fun I hI q => by
    rw [← q, N2.get (.head _)] at hI; cases hI
  refine wpAny_For (hs := by intro _; rfl) (nameM F2 rfl rfl rfl ?_)
  refine forList (s := ⟨_, _, _, _, _⟩) rfl F2 (hl.at fun o e => F2.keep _ _ e) hrL rfl rfl
    (fun i m h => ∃ us ep, m "firsts" = some (.ref lp) ∧ h.get? lp = some (PySem.W.listOf (us : List Value).toArray ep) ∧ IntsAre us (firsts (ns.take i))) ?_ ?_ ?_ ?_
  · rintro I i m h h' hI ⟨us, ep, a1, a2, a3⟩ k
    exact ⟨us, ep, a1, k _ _ (hlp I hI) hpL a2, a3⟩
  · intro h' k
    exact ⟨[], 0, rfl, k _ _ (N2.get (.head _)), .nil⟩
  · rintro I i v m₁ h tk oI hI0' hv ⟨us, ep, a1, a2, a3⟩ F hoI hI0 hIL
    have hi : i < ns.length := by
      rw [← hvl]
      have := (Array.getElem?_eq_some_iff.mp hv).1
      simpa using this
    obtain ⟨tv, ev⟩ := hI.get i _ (List.getElem?_eq_getElem hi)
    rw [List.getElem?_toArray] at hv
    rw [ev] at hv
    obtain rfl := Option.some.inj hv
    have e1 : firsts (ns.take (i + 1)) = if ns[i] ∈ firsts (ns.take i) then firsts (ns.take i) else firsts (ns.take i) ++ [ns[i]] := by
      rw [List.take_add_one, List.getElem?_eq_getElem hi, Option.toList_some, firsts_snoc]
    have hfl := firsts_len (ns.take i)
    rw [List.length_take] at hfl
    have hul := a3.length
    generalize ns[i] = x at *
    have hpI' : @Ne Nat lp I := hlp I hI0'
    have NN : News s.heap L' h [(lp, PySem.W.listOf us.toArray ep), (I, oI)] := by
      intro p hp
      rcases List.mem_cons.mp hp with rfl | hp
      · exact ⟨a2, hpL, hp0⟩
      · rw [List.mem_singleton.mp hp]; exact ⟨hoI, hIL, hI0⟩
    obtain ⟨ol, gl, _⟩ := id hl
    have gl1 := F.keep _ _ gl
    clear F2 N2 hlp
    generalize firsts (ns.take i) = fs at *
    k_steps
    · rename List.any fs _ = true => hany
      have hx : x ∈ fs := by
        obtain ⟨y, hy, e⟩ := List.any_eq_true.mp hany
        exact (eq_of_beq e) ▸ hy
      rw [if_pos hx] at e1
      refine ⟨_, _, _, rfl, F, hoI, fun o e => e, us, ep, ?_, a2, by rw [e1]; exact a3⟩
      (repeat refine lookNe (by decide) ?_); exact a1
    · rename List.any fs _ = false => hany
      rename Fr _ _ _ _ => F5
      rename News _ _ _ _ => N5
      have hx : ¬ x ∈ fs := fun hx => by
        have : (fs.any fun y => y == x) = true := List.any_eq_true.mpr ⟨x, hx, beq_self_eq_true x⟩
        rw [this] at hany; cases hany
      rw [if_neg hx] at e1
      refine ⟨_, _, _, rfl, F5, N5.get (by k_mem), fun o e => ?_, us ++ [.int x tv], ep + 1, ?_, ?_, ?_⟩
      · rw [gl1] at e; cases e; exact F5.keep _ _ gl
      · (repeat refine lookNe (by decide) ?_); exact a1
      · rw [N5.get (.head _)]; simp
      · rw [e1]; exact a3.append (.cons _ _ .nil)
  · rintro m' h tk ⟨us, ep, a1, a2, a3⟩ F
    rw [List.size_toArray, hvl, List.take_of_length_le (Nat.le_refl _)] at a3
    dsimp only
    clear F2 N2
    have NN : News s.heap L' h [(lp, PySem.W.listOf us.toArray ep)] := fun q hq => by
      rw [List.mem_singleton.mp hq]; exact ⟨a2, hpL, hp0⟩
    k_steps
    exact hQ _ _ (ret _ _ _ _ _ F.keep hp0 a2 a3)
end
end Mine
end
section
open PySem PySem.W PyProof.Rows
set_option maxRecDepth 100000
namespace Mine
/-- the places that one has, who had the tick ahead of each, and what is told of them -/
def mineOf (r : List (Fin 5)) (i : Fin 5) : List Nat := (List.range r.length).filter fun k => decide (r.getD k 0 = i)
def prevOf (r : List (Fin 5)) (k : Nat) : Fin 5 := r.getD (if k = 0 then r.length - 1 else k - 1) 0
def callersOf (r : List (Fin 5)) (i : Fin 5) : List (Fin 5) := (mineOf r i).map (prevOf r)
def tableOf (cs : List (Fin 5)) : List (Fin 5 × Int) := (firsts cs).map fun j => (j, ((cs.count j : Nat) : Int))
def toldEnt (r : List (Fin 5)) (i : Fin 5) : Ent :=
  ⟨(((callersOf r i).filter fun j => decide (j ≠ i)).length : Int), ((mineOf r i).length : Int), ((mineOf r i).map fun (k : Nat) => (k : Int)).sum, ((mineOf r i).map fun (k : Nat) => (k : Int) * (k : Int)).sum, tableOf (callersOf r i)⟩
def toldOf (r : List (Fin 5)) : List (Fin 5 × Ent) := (firsts r).map fun i => (i, toldEnt r i)
theorem range_getD (r : List (Fin 5)) : ((List.range r.length).map fun k => r.getD k 0) = r := by
  refine List.ext_getElem (by simp) fun i h1 h2 => ?_
  simp [h2]
theorem evs_keys (r : List (Fin 5)) : (evsTo r r.length).map (fun e : Ev => e.1) = r := by
  unfold evsTo
  rw [List.map_map]
  exact range_getD r
theorem evs_filter (r : List (Fin 5)) (i : Fin 5) : ((evsTo r r.length).filter fun e : Ev => decide (e.1 = i)) = (mineOf r i).map (evAt r) := by
  unfold evsTo mineOf
  rw [List.filter_map]
  rfl
theorem callers_ev (r : List (Fin 5)) (l : List Nat) : (l.map (evAt r)).map (fun e : Ev => e.2.1) = l.map (prevOf r) := by
  rw [List.map_map]; rfl
theorem len_filter_map {α β : Type} (f : α → β) (p : β → Bool) (l : List α) : (l.filter fun x => p (f x)).length = ((l.map f).filter p).length := by
  rw [List.filter_map, List.length_map]; rfl
theorem callTab_callers (r : List (Fin 5)) (l : List Nat) : callTab (l.map (evAt r)) = tableOf (l.map (prevOf r)) := by
  unfold callTab tab tableOf
  rw [callers_ev]
  refine List.map_congr_left fun j _ => ?_
  congr 1
  show (((List.map (evAt r) l).filter fun e : Ev => decide (e.2.1 = j)).length : Int) = _
  rw [len_filter_map (fun e : Ev => e.2.1) (fun c => decide (c = j)), callers_ev, List.count_eq_countP, List.countP_eq_length_filter]
  congr 2
theorem entOf_mine (r : List (Fin 5)) (i : Fin 5) : entOf i ((mineOf r i).map (evAt r)) = toldEnt r i := by
  unfold entOf toldEnt
  rw [callTab_callers]
  congr 1
  · rw [len_filter_map (fun e : Ev => e.2.1) (fun c => decide (c ≠ i)), callers_ev]; rfl
  · rw [List.length_map]
  · rw [List.map_map]; rfl
  · rw [List.map_map]; rfl
theorem told_eq (r : List (Fin 5)) : toldOf r = profOf (evsTo r r.length) := by
  unfold toldOf profOf tab
  rw [evs_keys]
  refine List.map_congr_left fun i _ => ?_
  rw [evs_filter, entOf_mine]
theorem calls_sum (r : List (Fin 5)) (i : Fin 5) : ((toldEnt r i).tb.map (·.2)).sum = (toldEnt r i).m := by
  rw [← entOf_mine]
  exact tab_sum (fun e : Ev => e.2.1) _
theorem tab_calls (r : List (Fin 5)) : ∀ p ∈ profOf (evsTo r r.length), (p.2.tb.map (·.2)).sum = p.2.m := by
  intro p hp
  rw [← told_eq] at hp
  obtain ⟨i, _, rfl⟩ := List.mem_map.mp hp
  exact calls_sum r i
theorem mine_none (r : List (Fin 5)) (i : Fin 5) (h : i ∉ r) : (mineOf r i).length = 0 := by
  rw [List.length_eq_zero_iff]
  unfold mineOf
  rw [List.filter_eq_nil_iff]
  intro k hk q
  rw [List.mem_range] at hk
  have q := of_decide_eq_true q
  rw [List.getD_eq_getElem?_getD, List.getElem?_eq_getElem hk] at q
  exact h (q ▸ List.getElem_mem _)
/-- how many ticks one has, by the profile -/
theorem find_ticks (r : List (Fin 5)) (i : Fin 5) : (match findG (profOf (evsTo r r.length)) i with | some e => e.m | none => 0) = ((mineOf r i).length : Int) := by
  rw [← told_eq]
  unfold toldOf
  rw [find_map_key]
  by_cases h : i ∈ firsts r
  · rw [if_pos h]; rfl
  · rw [if_neg h, mine_none r i fun q => h ((mem_firsts _ _).mpr q)]; rfl
/- systematic sampling -/
section
variable {start grand : Int}
def upTo (start grand x : Int) : Int := (x - start + grand - 1) / grand
theorem upTo_lt (hg : 0 < grand) (x : Int) (n : Nat) : start + grand * (n : Int) < x ↔ (n : Int) < upTo start grand x := by
  unfold upTo
  rw [Int.lt_iff_add_one_le (a := (n : Int)), Int.le_ediv_iff_mul_le hg, Int.add_mul, Int.one_mul, Int.mul_comm (n : Int) grand]
  omega
theorem cnt_below (hg : 0 < grand) (x : Int) (h0 : 0 ≤ upTo start grand x) : ∀ n : Nat, ((((List.range n).filter fun (k : Nat) => decide (start + grand * (k : Int) < x)).length : Nat) : Int) = min (n : Int) (upTo start grand x)
  | 0 => by simp; omega
  | n + 1 => by
    have ih := cnt_below hg x h0 n
    have e := upTo_lt (start := start) hg x n
    rw [List.range_succ, List.filter_append, List.length_append, Int.natCast_add, ih]
    by_cases q : start + grand * (n : Int) < x
    · have q' := e.mp q
      simp [q]; omega
    · have q' : ¬ (n : Int) < upTo start grand x := fun z => q (e.mpr z)
      simp [q]; omega
theorem cnt_between (a b : Int) (hab : a ≤ b) : ∀ n : Nat, ((List.range n).filter fun (k : Nat) => decide (start + grand * (k : Int) < b)).length = ((List.range n).filter fun (k : Nat) => decide (start + grand * (k : Int) < a)).length + ((List.range n).filter fun (k : Nat) => decide (a ≤ start + grand * (k : Int) ∧ start + grand * (k : Int) < b)).length
  | 0 => by simp
  | n + 1 => by
    have ih := cnt_between a b hab n
    simp only [List.range_succ, List.filter_append, List.length_append]
    rw [ih]
    by_cases q1 : start + grand * (n : Int) < a
    · have q2 : start + grand * (n : Int) < b := by omega
      have q3 : ¬ (a ≤ start + grand * (n : Int)) := by omega
      simp [q1, q2, q3]; omega
    · have q3 : a ≤ start + grand * (n : Int) := by omega
      by_cases q2 : start + grand * (n : Int) < b
      · simp [q1, q2, q3]; omega
      · simp [q1, q2, q3]
/-- nobody has a whole tick more or less than the share -/
theorem share {a e : Int} {many : Nat} (hs : 0 ≤ start) (hs' : start < grand) (ha : 0 ≤ a) (he : 0 ≤ e) (hb : a + e ≤ grand * (many : Int)) :
    ∀ t : Int, t = (((List.range many).filter fun (k : Nat) => decide (a ≤ start + grand * (k : Int) ∧ start + grand * (k : Int) < a + e)).length : Int) → t * grand - e < grand ∧ -(grand) < t * grand - e := by
  intro t ht
  have hg : 0 < grand := by omega
  have bnd : ∀ x, 0 ≤ x → x ≤ grand * (many : Int) → 0 ≤ upTo start grand x ∧ upTo start grand x ≤ many ∧ grand * upTo start grand x ≤ x - start + grand - 1 ∧ x - start + grand - 1 < grand * upTo start grand x + grand := by
    intro x h0 hx
    have e1 := Int.mul_ediv_add_emod (x - start + grand - 1) grand
    have e2 := Int.emod_nonneg (x - start + grand - 1) (show grand ≠ 0 by omega)
    have e3 := Int.emod_lt_of_pos (x - start + grand - 1) hg
    refine ⟨Int.ediv_nonneg (by omega) (by omega), ?_, ?_, ?_⟩
    · have : upTo start grand x < (many : Int) + 1 := by
        unfold upTo
        rw [Int.ediv_lt_iff_lt_mul hg, Int.add_mul, Int.one_mul, Int.mul_comm (many : Int) grand]
        omega
      omega
    · unfold upTo; omega
    · unfold upTo; omega
  obtain ⟨a1, a2, a3, a4⟩ := bnd a ha (by omega)
  obtain ⟨b1, b2, b3, b4⟩ := bnd (a + e) (by omega) hb
  have c1 := cnt_below hg a a1 many
  have c2 := cnt_below hg (a + e) b1 many
  have c3 := cnt_between (start := start) (grand := grand) a (a + e) (by omega) many
  have c4 : t = upTo start grand (a + e) - upTo start grand a := by omega
  rw [c4, Int.sub_mul, Int.mul_comm _ grand, Int.mul_comm _ grand]
  omega
end
end Mine
end
section
open PySem PySem.W PyProof.Rows
set_option maxRecDepth 100000
set_option maxHeartbeats 8000000
namespace Mine
section
variable {prog : Program} {w : World} {A : Around} {E E' : Value → Shared → Prop} {s : Shared} {env : Env} {h₀ : Heap} {Q : Flow → Shared → Prop}
/-- between the turns of a for whose target is a cell -/
inductive ForC (s : Shared) (h₀ : Heap) (L I l c : Addr) (items : Array Value) (J : Nat → (Str → Option Value) → Heap → Prop) (k : Nat) (s' : Shared) : Prop
  | mk (h : Heap) (tk : Tok) (m : Str → Option Value) (i : Nat) (v : Option Value) (e : s' = { s with heap := h, toks := tk }) (it : h.IsListIter I l i ∧ h.IsList l items) (F : Fr h₀ L h m) (hc : h.IsCell c v) (j : J i m h) (hi : i ≤ items.size) (kk : k = items.size + 1 - i)
/-- for x in (a list) where x is a cell, by what holds of the names and of the heap -/
theorem forListC {x : Str} {px : Pos} {body : List Stmt} {l c : Addr} {items : Array Value} {m : Str → Option Value} {v₀ : Option Value} (hh : A.handled = none) (F : Fr h₀ env.locals s.heap m) (hl : s.heap.IsList l items) (hlL : l ≠ env.locals) (hlc : l ≠ c)
    (hk : env.scope.kind = .function) (hx : env.kindOf x = some .cell) (hc : env.cells.lookup x = some c) (hcL : c ≠ env.locals) (hc0 : h₀.get? c = none) (hcv : s.heap.IsCell c v₀)
    (J : Nat → (Str → Option Value) → Heap → Prop) (hJ : ∀ I i m h h', s.heap.objs.size = I → J i m h → (∀ b o, b ≠ I → b ≠ env.locals → b ≠ c → h.get? b = some o → h'.get? b = some o) → J i m h')
    (h0 : ∀ h', Keep s.heap h' → J 0 m h')
    (turn : ∀ I i v m₁ h tk oI oc, s.heap.objs.size = I → items[i]? = some v → J i m₁ h → Fr h₀ env.locals h m₁ → h.get? I = some oI → h.get? c = some oc → oc.data = .cell (some v) → h.IsList l items → h₀.get? I = none → @Ne Nat I env.locals →
      wpAny (model prog w) A (execs body env) (fun f s₃ => match f with
          | .next | .cont => Hold (∃ h' tk' m', s₃ = { s with heap := h', toks := tk' } ∧ Fr h₀ env.locals h' m' ∧ h'.get? I = some oI ∧ h'.get? c = some oc ∧ h'.IsList l items ∧ J (i + 1) m' h')
          | .brk => Q .next s₃
          | .ret v => Q (.ret v) s₃) (notedBy (model prog w) A env fun e s' => cameBackBy (model prog w) A env E e s') { s with heap := h, toks := tk })
    (done : ∀ m' h tk v, J items.size m' h → Fr h₀ env.locals h m' → h.IsCell c v → Q .next { s with heap := h, toks := tk }) :
    wpAny (model prog w) A (pyIter (.ref l)) (fun it s₂ => codeAny (model prog w) A (.forLoop (.Name x px) it body [] env) (fun r s' => match r with | .ok f => Q f s' | .error e => cameBackBy (model prog w) A env E e s') s₂) E' s := by
  refine wpAny_pyIter_list hl ?_
  have hI := sizeNone s.heap
  have hI0 := freshOf F.keep hI
  have hIL : @Ne Nat s.heap.objs.size env.locals := by
    obtain ⟨oL, _, _, hL, _⟩ := F.ns
    exact Nat.ne_of_gt (Heap.lt_size hL)
  have hIc : @Ne Nat s.heap.objs.size c := Nat.ne_of_gt hcv.lt
  have hlt : l < s.heap.objs.size := by obtain ⟨o, ho, _⟩ := hl; exact Heap.lt_size ho
  have hne : l ≠ s.heap.objs.size := Nat.ne_of_lt hlt
  have W := Walks.list (prog := prog) (w := w) (A := A) hh s.heap.objs.size l hne items
  generalize hsz : s.heap.objs.size = I at *
  have hIo : ∀ (i : Nat) (h : Heap), (h.IsListIter I l i ∧ h.IsList l items) → ∃ o, h.get? I = some o := fun i h ⟨⟨o, ho, _⟩, _⟩ => ⟨o, ho⟩
  refine forH (ForC s h₀ env.locals I l c items J) (items.size + 1)
    ⟨_, _, m, 0, v₀, rfl, ⟨⟨_, by rw [← hsz]; exact Heap.get?_push_size _ rfl, rfl, rfl⟩, hl.at fun o e => Heap.get?_push_of_some _ e⟩, F.push _, hcv.keeps fun b o e => Heap.get?_push_of_some _ e, h0 _ fun b o e => Heap.get?_push_of_some _ e, Nat.zero_le _, rfl⟩ ?_ (fun _ => rfl)
  rintro k s' ⟨h, tk, m₁, i, v₁, rfl, st, F₁, cv, hj, hi, rfl⟩
  have mv : ∀ h₁ : Heap, (∀ b o, b ∉ [I] → h.get? b = some o → h₁.get? b = some o) → Fr h₀ env.locals h₁ m₁ ∧ J i m₁ h₁ ∧ h₁.IsCell c v₁ := fun h₁ hk₁ => by
    have hk₂ : ∀ b o, b ≠ I → h.get? b = some o → h₁.get? b = some o := fun b o q => hk₁ b o (by rw [List.mem_singleton]; exact q)
    obtain ⟨oL, es, ep, hoL, r⟩ := F₁.ns
    refine ⟨⟨⟨oL, es, ep, hk₂ _ _ (Ne.symm hIL) hoL, r⟩, fun b o e => hk₂ b o (fun q => by rw [q, hI0] at e; cases e) (F₁.keep b o e), F₁.above⟩, hJ I i m₁ h h₁ rfl hj fun b o q _ _ => hk₂ b o q, ?_⟩
    obtain ⟨o, ho, hd⟩ := cv
    exact ⟨o, hk₂ _ _ (Ne.symm hIc) ho, hd⟩
  by_cases hlt : i < items.size
  · refine W.item i _ _ _ hlt st fun v h₁ tk₁ hP st₁ hk₁ => ?_
    obtain ⟨F₂, hj₂, cv₂⟩ := mv h₁ hk₁
    refine wpAny_assign_Name (wpAny_storeName_cell hk hx hc cv₂ fun h₂ cv₃ hs₂ => ?_)
    have F₃ : Fr h₀ env.locals h₂ m₁ := F₂.change hs₂ hcL hc0
    obtain ⟨oc, goc, doc⟩ := cv₃
    have st₂ := W.frame (i + 1) h₁ h₂ st₁ (fun b hb o e => (hs₂.2 b (by
      rcases List.mem_cons.mp hb with rfl | hb
      · exact hIc
      · rw [List.mem_singleton.mp hb]; exact hlc)).trans e)
    obtain ⟨oI, hoI⟩ := hIo _ _ st₂
    refine wpAny_mono (turn I i v m₁ h₂ _ oI oc rfl hP (hJ I i m₁ h₁ h₂ rfl hj₂ fun b o _ _ q e => (hs₂.2 b q).trans e) F₃ hoI goc doc st₂.2 hI0 hIL) (fun f s₃ h₃ => ?_) fun _ _ e => e
    have key : ∀ h' : Heap, h'.get? I = some oI → h'.IsList l items → (h'.IsListIter I l (i + 1) ∧ h'.IsList l items) := fun h' kI kl => by
      refine ⟨?_, kl⟩
      obtain ⟨⟨o, ho, r⟩, _⟩ := st₂
      rw [hoI] at ho; cases ho
      exact ⟨_, kI, r⟩
    cases f with
    | next =>
      obtain ⟨h', tk', m', rfl, F', kI, kc, kl, hj'⟩ := h₃
      exact ⟨items.size + 1 - (i + 1), by omega, h', tk', m', i + 1, some v, rfl, key h' kI kl, F', ⟨oc, kc, doc⟩, hj', hlt, rfl⟩
    | cont =>
      obtain ⟨h', tk', m', rfl, F', kI, kc, kl, hj'⟩ := h₃
      exact ⟨items.size + 1 - (i + 1), by omega, h', tk', m', i + 1, some v, rfl, key h' kI kl, F', ⟨oc, kc, doc⟩, hj', hlt, rfl⟩
    | brk => exact h₃
    | ret v => exact h₃
  · have hin : i = items.size := by omega
    subst hin
    refine W.done _ _ _ st fun h₁ tk₁ hk₁ => wpAny_execs_nil ?_
    obtain ⟨F₂, hj₂, cv₂⟩ := mv h₁ hk₁
    exact done m₁ h₁ tk₁ _ hj₂ F₂ cv₂
end
end Mine
end
section
open PySem PySem.W PyProof.Rows
set_option maxRecDepth 100000
set_option maxHeartbeats 8000000
namespace Mine
theorem mapRangeN {α β : Type} (l : List α) (d : α) (f : α → β) : List.map (fun j => f (l.getD j d)) (List.filter (fun _ => true) (List.range l.length)) = l.map f := by
  rw [List.filter_eq_self.mpr (fun _ _ => rfl)]
  refine List.ext_getElem (by simp) fun i h1 h2 => ?_
  simp at h1
  simp [h1]
theorem filterRangeN {α β : Type} (l : List α) (d : α) (p : α → Bool) (f : α → β) : List.map (fun j => f (l.getD j d)) (List.filter (fun j => p (l.getD j d)) (List.range l.length)) = (l.filter p).map f := by
  have e : (List.range l.length).map (fun j => l.getD j d) = l := by
    have := mapRangeN l d id
    rw [List.filter_eq_self.mpr (fun _ _ => rfl), List.map_id] at this
    exact this
  conv => rhs; rw [← e, List.filter_map, List.map_map]
  rfl
theorem filterTrue (n : Nat) : (List.range n).filter (fun _ => true) = List.range n := List.filter_eq_self.mpr fun _ _ => rfl
section
variable {prog : Program} {w : World} {A : Around} {E : Value → Shared → Prop} {env : Env}
/-- a comprehension over a list, stored into a name, whose elements are borne by new objects -/
theorem compAssignList {s : Shared} {elt iter : Expr} {x y : Str} {px py : Pos} {scope : Scope} {cl : List (Str × Addr)} {pos spos : Pos} {Q : Flow → Shared → Prop} (n : Nat) (R' : Nat → Value → List (Addr × Obj) → Prop) {h₀ : Heap}
    (hh : A.handled = none) (hmono : ∀ i y sup sup', R' i y sup → (∀ p ∈ sup, p ∈ sup') → R' i y sup')
    (hsw : swapsWith (.ListComp elt [⟨.Name x px, iter, [], 0⟩] scope pos) (some (.Name y py)) spos.line env = pure true)
    (hclos : closureFor scope env = pure cl) (hcell : ∀ y ∈ scope.names, y.2 ≠ .cell) (hkind : scope.kind = .function)
    (hnames : ∀ y ∈ scope.names, y.2 = .local → scope.names.lookup y.1 = some .local) (hx : scope.names.lookup x = some .local)
    (hy : env.kindOf y = some .local) (hp : (env.scope.kind == .class || (env.scope.kind == .module && env.locals != env.globals)) = false)
    (h : wpAny (model prog w) A (eval iter env) (fun xv s₁ => ∃ l items m news, xv = .ref l ∧ s₁.heap.IsList l items ∧ items.size = n ∧ n ≤ sizeLine ∧ Fr h₀ env.locals s₁.heap m ∧ News h₀ env.locals s₁.heap news ∧
      (∀ C D I g i v (m₁ : Str → Option Value) h tk oI oD E', i < n → items[i]? = some v → Keep s₁.heap g → Fr g C h (fun y => if y = x then some v else m₁ y) → News g C h [(D, oD), (I, oI)] →
        wpAny (model prog w) A (eval elt (compEnvC scope cl C env)) (fun y s₃ => Hold (∃ h' tk' sup, s₃ = { s₁ with heap := h', toks := tk' } ∧ Keep h h' ∧ Sup sup h h' ∧ R' i y sup)) E' { s₁ with heap := h, toks := tk }) ∧
      (∀ D ys ep sup h' tk, Fr h₀ env.locals h' (fun z => if z = y then some (.ref D) else m z) → News h₀ env.locals h' ((D, PySem.W.listOf (ys : List Value).toArray ep) :: (news ++ sup)) → AllNe D news → AllNe D sup → (∀ q ∈ sup, s₁.heap.get? q.1 = none) → Paired (fun i y => R' i y sup) (List.range n) ys → Q .next { s₁ with heap := h', toks := tk })) E s)
    (hs : ∀ x, foldedSetIterable iter env x = pure x) :
    wpAny (model prog w) A (exec (.Assign [.Name y py] (.ListComp elt [⟨.Name x px, iter, [], 0⟩] scope pos) spos) env) Q E s := by
  refine compAssignW (fun _ => true) R' hmono hsw hclos hcell hkind hnames hx hy hp (wpAny_mono h (fun xv s₁ h₁ => ?_) fun _ _ e => e) hs
  obtain ⟨l, items, m, news, rfl, hl, hsz, hn, F, N, he, hQ⟩ := h₁
  refine wpAny_pyIter_list hl ?_
  obtain ⟨F', N', ne⟩ := pushNews (o := { cls := .type "list_iterator", data := .fields #[.ref l, .int 0 0] }) F N rfl
  have hlt : l < s₁.heap.objs.size := by obtain ⟨o, ho, _⟩ := hl; exact Heap.lt_size ho
  have hne : l ≠ s₁.heap.objs.size := Nat.ne_of_lt hlt
  have hI := sizeNone s₁.heap
  have hI0 : h₀.get? s₁.heap.objs.size = none := freshOf F.keep hI
  have hIL : s₁.heap.objs.size ≠ env.locals := (N' _ (.head _)).2.1
  have hps : ∀ b o, s₁.heap.get? b = some o → (s₁.heap.push { cls := .type "list_iterator", data := .fields #[.ref l, .int 0 0] }).get? b = some o := fun b o e => Heap.get?_push_of_some _ e
  have hbI : ∀ b o, s₁.heap.get? b = some o → b ≠ s₁.heap.objs.size := fun b o e q => by rw [q, hI] at e; cases e
  subst hsz
  refine ⟨_, _, _, _, _, m, rfl, Walks.list hh _ l hne items, hn, ⟨⟨_, Heap.get?_push_size _ rfl, rfl, rfl⟩, hl.at fun o e => Heap.get?_push_of_some _ e⟩, ?_, ?_, Ne.symm hIL, F'.ns, ?_, ?_, ?_⟩
  · intro b hb
    show b < (s₁.heap.push _).objs.size
    rw [Heap.size_push]
    rcases List.mem_cons.mp hb with rfl | hb
    · exact Nat.lt_succ_self _
    · rw [List.mem_singleton.mp hb]; exact Nat.lt_succ_of_lt hlt
  · rintro i h ⟨⟨o, ho, _⟩, _⟩
    exact ⟨o, ho⟩
  · intro C D i v m₁ h tk oI oD E' hi hP F'' N''
    exact wpAny_tests_nil ⟨_, _, rfl, Keep.rfl, rfl⟩
  · intro C D i v m₁ h tk oI oD E' hi hP hz F'' N''
    exact he C D _ _ i v m₁ h tk oI oD E' hi hP (fun b o e => hide1 (hps b o e) (hbI b o e)) F'' N''
  · intro D h' tk ys ep sup hD hlD hS hS' hF hns hk
    rw [filterTrue] at hF
    have oldL : ∀ b o, h₀.get? b = some o → b ≠ env.locals ∧ b ≠ s₁.heap.objs.size := fun b o e => ⟨fun q => by
      rw [q] at e
      exact absurd (Nat.lt_of_lt_of_le (Heap.lt_size e) F.above) (Nat.lt_irrefl _), fun q => by rw [q, hI0] at e; cases e⟩
    have G' : Fr h₀ env.locals h' (fun z => if z = y then some (.ref D) else m z) := ⟨hns, fun b o e => hk b o (oldL b o e).1 (oldL b o e).2 (hps _ _ (F.keep b o e)), F.above⟩
    have hD0 : s₁.heap.get? D = none := freshOf hps hD
    have nL : ∀ b, s₁.heap.get? b = none → b ≠ env.locals ∧ h₀.get? b = none := fun b q => by
      refine ⟨fun e => ?_, freshOf F.keep q⟩
      obtain ⟨oL, _, _, hL, _⟩ := F.ns
      rw [e, hL] at q
      cases q
    have hsup0 : ∀ q ∈ sup, s₁.heap.get? q.1 = none := fun q hq => freshOf hps (hS q hq).2
    have ne2 : ∀ (su : List (Addr × Obj)), (∀ p ∈ su, p.1 ≠ D) → AllNe D su := fun su => by
      induction su with
      | nil => intro _; trivial
      | cons a su ih => exact fun q => ⟨q a (.head _), ih fun p hp => q p (.tail _ hp)⟩
    refine hQ D ys ep sup h' tk G' ?_ (newsNe hD0 N) (ne2 sup hS') hsup0 hF
    intro p hp
    rcases List.mem_cons.mp hp with rfl | hp
    · exact ⟨hlD, nL _ hD0⟩
    rcases List.mem_append.mp hp with hp | hp
    · have e := N p hp
      exact ⟨hk _ _ e.2.1 (hbI _ _ e.1) (hps _ _ e.1), e.2⟩
    · exact ⟨(hS p hp).1, nL _ (hsup0 p hp)⟩
end
end Mine
end
namespace Mine
theorem turn18 {M : PySem.Model} {A : PySem.Around} {E : PySem.Value → PySem.Shared → Prop} {s : PySem.Shared} {env : PySem.Env} {Q : PySem.Flow → PySem.Shared → Prop} (h : Q .next s) : PySem.wpAny M A (PySem.execs [] env) Q E s := by
  w_top off
  walk1
  exact h
end Mine
section
open PySem PySem.W PyProof.Rows
set_option maxRecDepth 100000
set_option maxHeartbeats 8000000
namespace Mine
/-- rows of a table, of an entry and of what is told, borne by the objects named -/
def PairIs (sup : List (Addr × Obj)) (v : Value) (p : Fin 5 × Int) : Prop := ∃ a t1 t2, v = .ref a ∧ (a, tupObj [.str (nmS p.1) t1, .int p.2 t2]) ∈ sup
def TblIs (sup : List (Addr × Obj)) (v : Value) (tb : List (Fin 5 × Int)) : Prop := ∃ a xs ep, v = .ref a ∧ (a, PySem.W.listOf (xs : List Value).toArray ep) ∈ sup ∧ Paired (PairIs sup) xs tb
def EntRow (sup : List (Addr × Obj)) (v : Value) (e : Ent) : Prop := ∃ a t1 t2 t3 t4 v5, v = .ref a ∧ (a, tupObj [.int e.o t1, .int e.m t2, .int e.s t3, .int e.q t4, v5]) ∈ sup ∧ TblIs sup v5 e.tb
def RowIs (sup : List (Addr × Obj)) (v : Value) (p : Fin 5 × Ent) : Prop := ∃ a t v2, v = .ref a ∧ (a, tupObj [.str (nmS p.1) t, v2]) ∈ sup ∧ EntRow sup v2 p.2
theorem PairIs.mono {sup sup' : List (Addr × Obj)} (hs : ∀ p ∈ sup, p ∈ sup') {v : Value} {p : Fin 5 × Int} (h : PairIs sup v p) : PairIs sup' v p := let ⟨a, t1, t2, e, m⟩ := h; ⟨a, t1, t2, e, hs _ m⟩
theorem TblIs.mono {sup sup' : List (Addr × Obj)} (hs : ∀ p ∈ sup, p ∈ sup') {v : Value} {tb : List (Fin 5 × Int)} (h : TblIs sup v tb) : TblIs sup' v tb := let ⟨a, xs, ep, e, m, q⟩ := h; ⟨a, xs, ep, e, hs _ m, Paired.mono (fun _ _ => PairIs.mono hs) q⟩
theorem EntRow.mono {sup sup' : List (Addr × Obj)} (hs : ∀ p ∈ sup, p ∈ sup') {v : Value} {e : Ent} (h : EntRow sup v e) : EntRow sup' v e := let ⟨a, t1, t2, t3, t4, v5, e, m, q⟩ := h; ⟨a, t1, t2, t3, t4, v5, e, hs _ m, q.mono hs⟩
theorem RowIs.mono {sup sup' : List (Addr × Obj)} (hs : ∀ p ∈ sup, p ∈ sup') {v : Value} {p : Fin 5 × Ent} (h : RowIs sup v p) : RowIs sup' v p := let ⟨a, t, v2, e, m, q⟩ := h; ⟨a, t, v2, e, hs _ m, q.mono hs⟩
theorem getCast (l : List Nat) (j : Nat) (hj : j < l.length) : (l.map fun (k : Nat) => (k : Int))[j]? = some ((l.getD j 0 : Nat) : Int) := by simp [hj]
theorem getVal (l : List (Fin 5)) (j : Nat) (hj : j < l.length) : (nums5 l)[j]? = some (((l.getD j 0).val : Nat) : Int) := by simp [hj]
theorem pairMade {s s₃ : Shared} {h5 : Heap} (p : Fin 5 × Int) (t1 t2 : Tok) (tk : Nat) (e : s₃ = { s with heap := h5.push (tupObj [.str (nmS p.1) t1, .int p.2 t2]), toks := tk }) :
    Hold (∃ h' tk' sup, s₃ = { s with heap := h', toks := tk' } ∧ Keep h5 h' ∧ Sup sup h5 h' ∧ PairIs sup (.ref h5.objs.size) p) := by
  refine ⟨_, _, [(h5.objs.size, tupObj [.str (nmS p.1) t1, .int p.2 t2])], e, fun b o e => Heap.get?_push_of_some _ e, ?_, _, _, _, rfl, .head _⟩
  intro q hq
  rw [List.mem_singleton.mp hq]
  exact ⟨Heap.get?_push_size _ rfl, sizeNone _⟩
theorem pairedMap {α β γ : Type} {R : β → γ → Prop} (f : α → γ) : ∀ {l : List α} {ys : List β}, Paired (fun i y => R y (f i)) l ys → Paired R ys (l.map f)
  | _, _, .nil => .nil
  | _, _, .cons h t => .cons h (pairedMap f t)
theorem rowMade {h : Heap} {D22 D21 D13 : Addr} {t t1 t2 t3 t4 : Tok} {o : Fin 5} {e : Ent} {ys : List Value} {ep : Nat} {sup sup13 : List (Addr × Obj)} (g22 : h.get? D22 = some (tupObj [.str (nmS o) t, .ref D21])) (g21 : h.get? D21 = some (tupObj [.int e.o t1, .int e.m t2, .int e.s t3, .int e.q t4, .ref D13]))
    (g13 : h.get? D13 = some (PySem.W.listOf ys.toArray ep)) (hP : Paired (PairIs sup13) ys e.tb) : ∃ o22 o21 o13, h.get? D22 = some o22 ∧ h.get? D21 = some o21 ∧ h.get? D13 = some o13 ∧ RowIs ((D22, o22) :: (D21, o21) :: (D13, o13) :: (sup ++ sup13)) (.ref D22) (o, e) :=
  ⟨_, _, _, g22, g21, g13, _, _, _, rfl, .head _, _, _, _, _, _, _, rfl, .tail _ (.head _), _, _, _, rfl, .tail _ (.tail _ (.head _)), Paired.mono (fun _ _ => PairIs.mono fun _ hp => .tail _ (.tail _ (.tail _ (List.mem_append_right _ hp)))) hP⟩
theorem allNe_of {d : Addr} : ∀ {l : List (Addr × Obj)}, (∀ p ∈ l, p.1 ≠ d) → AllNe d l
  | [], _ => trivial
  | a :: _, q => ⟨q a (.head _), allNe_of fun p hp => q p (.tail _ hp)⟩
theorem allNe_app {d : Addr} {l l' : List (Addr × Obj)} (h : AllNe d l) (h' : AllNe d l') : AllNe d (l ++ l') :=
  allNe_of fun p hp => (List.mem_append.mp hp).elim (allNe_mem h p) (allNe_mem h' p)
theorem eqFin (a b : Fin 5) : ((a.val : Int) == (b.val : Int)) = decide (a = b) := by revert a b; decide
theorem neFin (a b : Fin 5) : ((a.val : Int) != (b.val : Int)) = decide (a ≠ b) := by revert a b; decide
theorem countVal (x : Fin 5) : ∀ l : List (Fin 5), (nums5 l).count (x.val : Int) = l.count x
  | [] => rfl
  | y :: l => by
    have ih := countVal x l
    show ((y.val : Int) :: nums5 l).count _ = _
    rw [List.count_cons, List.count_cons, ih, eqFin]
    by_cases h : y = x
    · simp [h]
    · simp [h]
section
variable {prog : Program} {w : World} {dp un : Nat} {fr : Option (List Env)} {gd : Option (List Code)} {s : Shared} {p : Program} {loose : List Str} {mean : ExcName → Option Value} {mg mb : Str → Option Value} {Q : Value → Shared → Prop} {E : Value → Shared → Prop}
  {h₀ : Heap}
local macro_rules
  | `(tactic| walk_at "exec For Name Call cons nil") => `(tactic| kfm_turns)
  | `(tactic| walk_at "exec Assign cons ListComp") => `(tactic| kfm_turns)
  | `(tactic| walk_at "eval ListComp") => `(tactic| kfm_turns)
  | `(tactic| walk_at "call builtin:sum") => `(tactic| kfm_turns)
  | `(tactic| walk_at "call builtin:list.append") => `(tactic| kfm_turns)
  | `(tactic| walk_at "pyIter ref") => `(tactic| kfm_turns)
  | `(tactic| walk_at "eval Name") => `(tactic| kpt_turns)
/-- between the turns of the telling's loop -/
inductive ToI (lp lf I : Addr) (oR : Obj) (h₀ : Heap) (L : Addr) (r : List (Fin 5)) (fs : List Value) (fep : Nat) (i : Nat) (m : Str → Option Value) (h : Heap) : Prop
  | mk (us : List Value) (ep : Nat) (sup : List (Addr × Obj)) (oc : Obj) (vc : Option Value) (a1 : m "told" = some (.ref lp)) (a2 : Paired (RowIs sup) us ((toldOf r).take i)) (a3 : oc.data = .cell vc)
    (a4 : News h₀ L h ((lp, PySem.W.listOf us.toArray ep) :: (lf, PySem.W.listOf fs.toArray fep) :: (L + 1 + 1 + 1, oc) :: (L + 1, oR) :: sup)) (a5 : AllNe lp sup) (a6 : AllNe (L + 1 + 1 + 1) sup) (a7 : AllNe (L + 1 + 1) sup) (a8 : AllNe I sup)
theorem c_told0 {lr : Addr} {vs : List Value} {r : List (Fin 5)} (X : (Mine.K w.params).In s.heap) (T : Top p loose mean mg mb s.heap) (hroom : dp + 40 < recursionLimit) (hun : un + 200 < cLine)
   (hl : s.heap.IsList lr vs.toArray) (hI : IntsAre vs (nums5 r)) (hr : 1 ≤ r.length ∧ r.length ≤ 8)
   (ret : ∀ l us ep sup h' tk', Keep s.heap h' → s.heap.get? l = none → h'.get? l = some (PySem.W.listOf (us : List Value).toArray ep) → Paired (RowIs sup) us (toldOf r) → (∀ p ∈ sup, h'.get? p.1 = some p.2 ∧ s.heap.get? p.1 = none) → Q (.ref l) { s with heap := h', toks := tk' }) :
   wpAny (model prog w) (AR dp un fr gd) (call (.ref 145) [.ref lr]) Q E s := by
  w_top off
  have hvl := hI.length
  rw [List.length_map] at hvl
  refine enterC (binds := [("row", .ref lr)]) (hid := []) X T Keep.rfl (by intro p hp; cases hp) (by intro p hp; cases hp) (by k_is) (by k_is) (by show dp < _; exact room0 hroom) (BindsTo.of_eq rfl) rfl (by decide +kernel) ?_ rfl rfl rfl
  intro g L' h₁ tk cells hg F NN Y X' T' k1 l1
  refine retQ fun Q' E' hQ => ?_
  have hg' : g = s.heap := hg
  subst hg'
  clear hg l1
  k_cells Y
  simp only [List.cons_append, List.nil_append] at NN
  rename_i oC oI oR dC dI dR
  replace dR : oR.data = .cell (some (.ref lr)) := dR
  replace dC : oC.data = .cell none := dC
  replace dI : oI.data = .cell none := dI
  k_steps
  show wpAny _ _ _ _ _ _
  refine wpAny_For (hs := by intro _; rfl) ?_
  k_steps
  show wpAny _ _ _ _ _ _
  rename Fr _ _ _ _ => F2
  rename News _ _ _ _ => N2
  rename_i lp _ l2 hA
  refine c_firsts0 (s := ⟨_, _, _, _, _⟩) (X.keeps F2.keep) (T.keeps F2.keep) (by show dp + 21 < _; exact roomK hroom (by decide)) (by show un + 103 < _; exact roomK hun (by decide)) (hl.at fun o e => F2.keep _ _ e) hI (by rw [List.length_map]; omega) ?_
  intro lf fs fep hB tkB kB nB gB hIf
  rw [firsts_nums] at hIf
  have F3 := frKeep F2 kB
  have N3 := newsAdd F2 N2 kB nB gB
  have lfN := newsNe nB N2
  clear F2 N2
  simp only [AllNe, and_true] at lfN
  have hfl : (firsts r).length ≤ 8 := Nat.le_trans (firsts_len r) hr.2
  have hfs := hIf.length
  rw [List.length_map] at hfs
  have hp0 : s.heap.get? lp = none := N3.fresh (by k_mem)
  have hpL : @Ne Nat lp L' := (N3 (lp, _) (by k_mem)).2.1
  have hf0 : s.heap.get? lf = none := N3.fresh (by k_mem)
  have hfL : @Ne Nat lf L' := (N3 (lf, _) (by k_mem)).2.1
  have c30 : s.heap.get? (L' + 1 + 1 + 1) = none := N3.fresh (by k_mem)
  have c20 : s.heap.get? (L' + 1 + 1) = none := N3.fresh (by k_mem)
  have c10 : s.heap.get? (L' + 1) = none := N3.fresh (by k_mem)
  have below : ∀ I, hB.get? I = none → lp ≠ I ∧ lf ≠ I ∧ @Ne Nat (L' + 1 + 1 + 1) I ∧ @Ne Nat (L' + 1 + 1) I ∧ @Ne Nat (L' + 1) I := fun I hI => by
    have q := newsNe hI N3
    simp only [AllNe, and_true] at q
    exact ⟨q.2.1, q.1, q.2.2.1, q.2.2.2.1, q.2.2.2.2⟩
  refine forListC (s := ⟨_, _, _, _, _⟩) (c := L' + 1 + 1) (v₀ := none) rfl F3 (isListNews N3 (.head _)) hfL (Ne.symm lfN.2.2.1) rfl rfl rfl (by show @Ne Nat (L' + 1 + 1) L'; omega) c20 ⟨oI, N3.get (by k_mem), dI⟩
    (ToI lp lf hB.objs.size oR s.heap L' r fs fep) ?_ ?_ ?_ ?_
  · rintro I i m h h' hI ⟨us, ep, sup, oc, vc, a1, a2, a3, a4, a5, a6, a7, a8⟩ k
    have hI : hB.objs.size = I := hI
    obtain ⟨b1, b2, b3, b4, b5⟩ := below I (hI ▸ sizeNone hB)
    have a8' := a8
    rw [hI] at a8'
    refine ⟨us, ep, sup, oc, vc, a1, a2, a3, fun q hq => ⟨?_, (a4 q hq).2⟩, a5, a6, a7, a8⟩
    have e := (a4 q hq).1
    refine k _ _ ?_ (a4 q hq).2.1 ?_ e
    · rcases List.mem_cons.mp hq with rfl | hq
      · exact b1
      rcases List.mem_cons.mp hq with rfl | hq
      · exact b2
      rcases List.mem_cons.mp hq with rfl | hq
      · exact b3
      rcases List.mem_cons.mp hq with rfl | hq
      · exact b5
      · exact allNe_mem a8' q hq
    · rcases List.mem_cons.mp hq with rfl | hq
      · show @Ne Nat lp _; omega
      rcases List.mem_cons.mp hq with rfl | hq
      · exact Ne.symm lfN.2.2.1
      rcases List.mem_cons.mp hq with rfl | hq
      · show @Ne Nat (L' + 1 + 1 + 1) (L' + 1 + 1); omega
      rcases List.mem_cons.mp hq with rfl | hq
      · show @Ne Nat (L' + 1) (L' + 1 + 1); omega
      · exact allNe_mem a7 q hq
  · intro h' k
    refine ⟨[], 0, [], oC, none, rfl, by rw [List.take_zero]; exact .nil, dC, fun q hq => ?_, trivial, trivial, trivial, trivial⟩
    refine newsKeep N3 k _ ?_
    rcases List.mem_cons.mp hq with rfl | hq
    · k_mem
    rcases List.mem_cons.mp hq with rfl | hq
    · k_mem
    rcases List.mem_cons.mp hq with rfl | hq
    · k_mem
    · rw [List.mem_singleton.mp hq]; k_mem
  · rintro I i v m₁ h tk oIt oc2 hIn hv ⟨us, ep, sup, oc, vc, a1, a2, a3, a4, a5, a6, a7, a8⟩ F hoI goc2 doc2 hlf hI0 hIL
    have hi : i < (firsts r).length := by
      rw [← hfs]
      have := (Array.getElem?_eq_some_iff.mp hv).1
      simpa using this
    obtain ⟨tv, ev⟩ := hIf.get i (((firsts r)[i]).val : Int) (by rw [List.getElem?_map, List.getElem?_eq_getElem hi]; rfl)
    rw [List.getElem?_toArray] at hv
    rw [ev] at hv
    obtain rfl := Option.some.inj hv
    have hnext : (toldOf r).take (i + 1) = (toldOf r).take i ++ [((firsts r)[i], toldEnt r (firsts r)[i])] := by
      rw [List.take_add_one]
      unfold toldOf
      rw [List.getElem?_map, List.getElem?_eq_getElem hi]
      rfl
    generalize (firsts r)[i] = o at *
    have hIn : hB.objs.size = I := hIn
    obtain ⟨b1, b2, b3, b4, b5⟩ := below I (hIn ▸ sizeNone hB)
    have hul := a2.length
    have hTL : (toldOf r).length = (firsts r).length := by unfold toldOf; rw [List.length_map]
    rw [List.length_take, hTL] at hul
    have hus8 : us.length ≤ 8 := by rw [hul]; exact Nat.le_trans (Nat.min_le_right _ _) hfl
    clear hul hTL
    have NN : News s.heap L' h ((lp, PySem.W.listOf us.toArray ep) :: (lf, PySem.W.listOf fs.toArray fep) :: (L' + 1 + 1 + 1, oc) :: (L' + 1 + 1, oc2) :: (L' + 1, oR) :: (I, oIt) :: sup) := by
      intro q hq
      rcases List.mem_cons.mp hq with rfl | hq
      · exact a4 _ (.head _)
      rcases List.mem_cons.mp hq with rfl | hq
      · exact a4 _ (.tail _ (.head _))
      rcases List.mem_cons.mp hq with rfl | hq
      · exact a4 _ (.tail _ (.tail _ (.head _)))
      rcases List.mem_cons.mp hq with rfl | hq
      · exact ⟨goc2, by show @Ne Nat (L' + 1 + 1) L'; omega, c20⟩
      rcases List.mem_cons.mp hq with rfl | hq
      · exact a4 _ (.tail _ (.tail _ (.tail _ (.head _))))
      rcases List.mem_cons.mp hq with rfl | hq
      · exact ⟨hoI, hIL, hI0⟩
      · exact a4 _ (.tail _ (.tail _ (.tail _ (.tail _ hq))))
    have hlpf : @Ne Nat lp lf := lfN.1
    have b1' : @Ne Nat lp I := b1
    have b2' : @Ne Nat lf I := b2
    have a8' := a8
    rw [hIn] at a8'
    clear a4 below F3 N3
    have F : Fr s.heap L' h m₁ := F
    have hIL : @Ne Nat I L' := hIL
    k_steps
    show wpAny _ _ _ _ _ _
    refine compAssignI r.length (fun k => decide (r.getD k 0 = o)) (fun k => (k : Int)) F NN rfl rfl (by decide) rfl (by decide) rfl rfl rfl ?_ (by intro _; rfl)
    k_steps
    show wpAny _ _ _ _ _ _
    rename Fr _ _ _ _ => F2
    rename News _ _ _ _ => N2
    rename IsRange _ _ _ _ _ _ _ _ => R2
    rw [List.length_map] at R2
    refine srcRange rfl F2 N2 R2 (by rw [sizeLine_eq]; omega) (by rfl) ?_ ?_ ?_
    · rintro C D J gg k v m₁ h tk oI oD E' hk' ⟨tk', rfl⟩ hk F N
      have hcR := hk _ _ (N2.get (show (L' + 1, _) ∈ _ by k_mem))
      have hcI := hk _ _ (N2.get (show (L' + 1 + 1, _) ∈ _ by k_mem))
      have hrow := hl.at fun o e => F.keep _ _ (hk _ _ (F2.keep _ _ e))
      refine wpAny_tests_one (wpAny_isTrue_Compare1 (Subscript_ (nameAC F rfl (by rfl) (by rfl) hcR dR (nameAL F rfl (by rfl) (by rfl) ?_))))
      refine item_list_ints hrow hI (by omega) (by rw [List.length_map]; omega) (by omega) fun t => ?_
      rw [getNum, Int.toNat_natCast]
      refine nameAC F rfl (by rfl) (by rfl) hcI doc2 (eq_int (wpAny_truthy_bool ⟨_, _, rfl, Keep.rfl, eqFin _ _⟩))
    · rintro C D J gg k v m₁ h tk oI oD E' hk' ⟨tk', rfl⟩ hz hk F N
      exact nameAL F rfl (by rfl) (by rfl) ⟨_, _, _, rfl, Keep.rfl, rfl⟩
    · intro J hh _ _ D vm ep2 h' tk F3 N3 l3 hIm
      replace hIm : IntsAre vm ((mineOf r o).map fun (k : Nat) => (k : Int)) := hIm
      have hml : (mineOf r o).length ≤ 8 := Nat.le_trans (Nat.le_trans (List.length_filter_le _ _) (Nat.le_of_eq List.length_range)) hr.2
      have hmm : ∀ j < (mineOf r o).length, (mineOf r o).getD j 0 < r.length := fun j hj => by
        have : (mineOf r o).getD j 0 ∈ mineOf r o := by
          rw [List.getD_eq_getElem?_getD, List.getElem?_eq_getElem hj]
          exact List.getElem_mem _
        exact List.mem_range.mp (List.mem_filter.mp this).1
      clear F2 N2 R2
      simp only [AllNe] at l3
      have l3s := l3.2.2.2.2.2.2
      replace l3 := And.intro l3.1 (And.intro l3.2.1 (And.intro l3.2.2.1 (And.intro l3.2.2.2.1 (And.intro l3.2.2.2.2.1 l3.2.2.2.2.2.1))))
      k_steps
      show wpAny _ _ _ _ _ _
      rename Fr _ _ _ _ => F4
      rename News _ _ _ _ => N4
      have hlm := hIm.length
      rw [List.length_map] at hlm
      refine wpAny_Assign_Name ?_ (by rfl)
      refine compI (mineOf r o).length (fun _ => true) (fun j => (((prevOf r ((mineOf r o).getD j 0)).val : Nat) : Int)) F4 N4 rfl (by decide) rfl (by decide) rfl ?_ (by intro _; rfl)
      refine nameM F4 rfl rfl rfl ?_
      refine srcList (items := vm.toArray) rfl F4 N4 (isListNews N4 (by k_mem)) (by rw [List.size_toArray, hlm]) (by rw [sizeLine_eq]; omega) (by rfl) ?_ ?_ ?_
      · intro C D J gg i v m₁ h tk oI oD E' hi hP hk F N
        exact wpAny_tests_nil ⟨_, _, rfl, Keep.rfl, rfl⟩
      · intro C5 D5 J5 g5 j v m5 h5 tk5 oI5 oD5 E5 hj hP5 _ hk5 F5 N5
        have hcR := hk5 _ _ (N4.get (show (L' + 1, _) ∈ _ by k_mem))
        have hrow := hl.at fun o e => F5.keep _ _ (hk5 _ _ (F4.keep _ _ e))
        obtain ⟨t5, e5⟩ := hIm.get j (((mineOf r o).getD j 0 : Nat) : Int) (getCast _ _ hj)
        rw [List.getElem?_toArray, e5] at hP5
        obtain rfl := Option.some.inj hP5
        refine Subscript_ (nameAC F5 rfl (by rfl) (by rfl) hcR dR (wpAny_BinOp (nameAL F5 rfl (by rfl) (by rfl) (wpAny_Constant_int (sub_int ?_)))))
        refine prevAt hrow hI (hmm j hj) hr.2 fun t => ?_
        exact ⟨_, _, _, rfl, Keep.rfl, rfl⟩
      intro J5 h5 n5 k5 D6 vc6 ep6 h6 tk6 F6 N6 l6 hI6 _
      replace hI6 : IntsAre vc6 (nums5 (callersOf r o)) := by
        have e : List.map (fun j => (((prevOf r ((mineOf r o).getD j 0)).val : Nat) : Int)) (List.filter (fun _ => true) (List.range (mineOf r o).length)) = nums5 (callersOf r o) := by
          rw [mapRangeN (mineOf r o) 0 fun k => (((prevOf r k).val : Nat) : Int)]
          show _ = ((mineOf r o).map (prevOf r)).map _
          rw [List.map_map]; rfl
        rw [← e]; exact hI6
      clear F4 N4
      refine wpAny_storeName_cell rfl rfl rfl ⟨oc, N6.get (show (L' + 1 + 1 + 1, _) ∈ _ by k_mem), a3⟩ fun h7 hc7 hs7 => ?_
      obtain ⟨oc7, g7, d7⟩ := hc7
      have F7 := F6.change hs7 (show @Ne Nat (L' + 1 + 1 + 1) L' by omega) c30
      simp only [AllNe] at l6
      have l6s := l6.2.2.2.2.2.2.2
      have l6D := l6.1
      replace l6 := And.intro l6.1 (And.intro l6.2.1 (And.intro l6.2.2.1 (And.intro l6.2.2.2.1 (And.intro l6.2.2.2.2.1 (And.intro l6.2.2.2.2.2.1 l6.2.2.2.2.2.2.1)))))
      have N7 := News.setAt (own := [(D6, _), (D, _), (lp, _), (lf, _)]) N6 (by
        intro q hq
        rcases List.mem_cons.mp hq with rfl | hq
        · exact Ne.symm l6.2.2.2.1
        rcases List.mem_cons.mp hq with rfl | hq
        · exact Ne.symm l3.2.2.1
        rcases List.mem_cons.mp hq with rfl | hq
        · show @Ne Nat lp _; omega
        · rw [List.mem_singleton.mp hq]; exact Ne.symm lfN.2.1) (by
        intro q hq
        rcases List.mem_cons.mp hq with rfl | hq
        · show @Ne Nat (L' + 1 + 1) (L' + 1 + 1 + 1); omega
        rcases List.mem_cons.mp hq with rfl | hq
        · show @Ne Nat (L' + 1) (L' + 1 + 1 + 1); omega
        rcases List.mem_cons.mp hq with rfl | hq
        · exact Ne.symm b3
        · exact allNe_mem a6 q hq) hs7 g7
      clear F6 N6 hs7 a3
      simp only [List.cons_append, List.nil_append] at N7
      dsimp only
      k_steps
      show wpAny _ _ _ _ _ _
      rename Fr _ _ _ _ => F8
      rename News _ _ _ _ => N8
      have hcl : (callersOf r o).length ≤ 8 := by unfold callersOf; rw [List.length_map]; exact hml
      have hlc := hI6.length
      rw [List.length_map] at hlc
      refine compI (callersOf r o).length (fun j => decide ((callersOf r o).getD j 0 ≠ o)) (fun j => ((((callersOf r o).getD j 0).val : Nat) : Int)) F8 N8 rfl (by decide) rfl (by decide) rfl ?_ (by intro _; rfl)
      k_steps
      show wpAny _ _ _ _ _ _
      refine srcList (items := vc6.toArray) rfl F8 N8 (isListNews N8 (by k_mem)) (by rw [List.size_toArray, hlc]) (by rw [sizeLine_eq]; omega) (by rfl) ?_ ?_ ?_
      · intro C5 D5 J5 g5 j v m5 h5 tk5 oI5 oD5 E5 hj hP5 hk5 F5 N5
        have hcI := hk5 _ _ (N8.get (show (L' + 1 + 1, _) ∈ _ by k_mem))
        obtain ⟨t5, e5⟩ := hI6.get j _ (getVal _ _ hj)
        rw [List.getElem?_toArray, e5] at hP5
        obtain rfl := Option.some.inj hP5
        exact wpAny_tests_one (wpAny_isTrue_Compare1 (nameAL F5 rfl (by rfl) (by rfl) (nameAC F5 rfl (by rfl) (by rfl) hcI doc2 (ne_int (wpAny_truthy_bool ⟨_, _, rfl, Keep.rfl, neFin _ _⟩)))))
      · intro C5 D5 J5 g5 j v m5 h5 tk5 oI5 oD5 E5 hj hP5 _ hk5 F5 N5
        obtain ⟨t5, e5⟩ := hI6.get j _ (getVal _ _ hj)
        rw [List.getElem?_toArray, e5] at hP5
        obtain rfl := Option.some.inj hP5
        exact nameAL F5 rfl (by rfl) (by rfl) ⟨_, _, _, rfl, Keep.rfl, rfl⟩
      intro J9 h9 n9 k9 D10 vo10 ep10 h10 tk10 F10 N10 l10 hI10 _
      replace hI10 : IntsAre vo10 (nums5 ((callersOf r o).filter fun j => decide (j ≠ o))) := by
        rw [show nums5 ((callersOf r o).filter fun j => decide (j ≠ o)) = _ from (filterRangeN (callersOf r o) 0 (fun j => decide (j ≠ o)) fun j => ((j.val : Nat) : Int)).symm]
        exact hI10
      clear F8 N8
      simp only [AllNe] at l10
      have l10s := l10.2.2.2.2.2.2.2.2
      replace l10 := And.intro l10.1 (And.intro l10.2.1 (And.intro l10.2.2.1 (And.intro l10.2.2.2.1 (And.intro l10.2.2.2.2.1 (And.intro l10.2.2.2.2.2.1 (And.intro l10.2.2.2.2.2.2.1 l10.2.2.2.2.2.2.2.1))))))
      have hlo := hI10.length
      rw [List.length_map] at hlo
      have hol := Nat.le_trans (List.length_filter_le (fun j => decide (j ≠ o)) (callersOf r o)) hcl
      replace F10 : Fr s.heap L' h10 _ := F10
      replace N10 : News s.heap L' h10 _ := N10
      k_steps
      show wpAny _ _ _ _ _ _
      have hft := Nat.le_trans (firsts_len (callersOf r o)) hcl
      refine compAssignList (h₀ := s.heap) (firsts (callersOf r o)).length (fun j y sup => PairIs sup y ((firsts (callersOf r o)).getD j 0, (((callersOf r o).count ((firsts (callersOf r o)).getD j 0) : Nat) : Int))) rfl (fun i y sup sup' h hs => PairIs.mono hs h) rfl rfl (by decide) rfl (by decide) rfl rfl rfl ?_ (by intro _; rfl)
      k_steps
      show wpAny _ _ _ _ _ _
      rename Fr _ _ _ _ => F11
      rename News _ _ _ _ => N11
      refine c_firsts0 (s := ⟨_, _, _, _, _⟩) (X.keeps F11.keep) (T.keeps F11.keep) (by show dp + 21 < _; exact roomK hroom (by decide)) (by show un + 103 < _; exact roomK hun (by decide)) (isListNews N11 (by k_mem)) hI6 (by rw [List.length_map]; omega) ?_
      intro lt ts tep h12 tk12 k12 n12 g12 hIt
      rw [firsts_nums] at hIt
      have F12 := frKeep F11 k12
      have N12 := newsAdd F11 N11 k12 n12 g12
      have l12 := newsNe n12 N11
      clear F11 N11
      have hlt := hIt.length
      rw [List.length_map] at hlt
      refine ⟨lt, ts.toArray, _, _, rfl, isListNews N12 (.head _), by rw [List.size_toArray, hlt], by rw [sizeLine_eq]; omega, F12, N12, ?_, ?_⟩
      · intro C5 D5 J5 g5 j v m5 h5 tk5 oI5 oD5 E5 hj hP5 hk5 F5 N5
        obtain ⟨t5, e5⟩ := hIt.get j _ (getVal _ _ hj)
        rw [List.getElem?_toArray, e5] at hP5
        obtain rfl := Option.some.inj hP5
        have hcC := hk5 _ _ (N12.get (show (L' + 1 + 1 + 1, _) ∈ _ by k_mem))
        have hlist := hk5 _ _ (N12.get (show (D6, _) ∈ _ by k_mem))
        refine Tuple_ (spliced_more (Subscript_ (wpAny_Constant_str (nameAL F5 rfl (by rfl) (by rfl) (abcAt (spliced_more ?_))))))
        with_unfolding_all refine MethodCall_ ?_
        refine nameAC F5 rfl (by rfl) (by rfl) hcC d7 ?_
        refine getMethod_list_of PySem.F.slot_list_count PySem.F.type_list_count ⟨_, F5.keep _ _ hlist, rfl, _, rfl⟩ ⟨_, F5.keep _ _ hlist, rfl⟩ ?_
        refine callWith_method1 (spliced_more (nameAL F5 rfl (by rfl) (by rfl) (spliced_none ?_)))
        refine count_list_ints ⟨_, F5.keep _ _ hlist, rfl, _, rfl⟩ hI6 (spliced_none ?_)
        rw [countVal]
        refine wpAny_newObj_type ?_ (by size_fits)
        exact pairMade _ _ _ _ rfl
      intro D13 ys13 ep13 sup13 h13 tk13 F13 N13 l13 l13s su13 hP13
      replace F13 : Fr s.heap L' h13 _ := F13
      replace N13 : News s.heap L' h13 _ := N13
      simp only [List.cons_append, List.nil_append] at N13
      simp only [AllNe] at l12 l13
      have l12s := l12.2.2.2.2.2.2.2.2.2
      have l13t := l13.2.2.2.2.2.2.2.2.2.2
      replace l12 := And.intro l12.1 (And.intro l12.2.1 (And.intro l12.2.2.1 (And.intro l12.2.2.2.1 (And.intro l12.2.2.2.2.1 (And.intro l12.2.2.2.2.2.1 (And.intro l12.2.2.2.2.2.2.1 (And.intro l12.2.2.2.2.2.2.2.1 l12.2.2.2.2.2.2.2.2.1)))))))
      replace l13 := And.intro l13.1 (And.intro l13.2.1 (And.intro l13.2.2.1 (And.intro l13.2.2.2.1 (And.intro l13.2.2.2.2.1 (And.intro l13.2.2.2.2.2.1 (And.intro l13.2.2.2.2.2.2.1 (And.intro l13.2.2.2.2.2.2.2.1 (And.intro l13.2.2.2.2.2.2.2.2.1 l13.2.2.2.2.2.2.2.2.2.1))))))))
      have ne13 : ∀ b ob, h12.get? b = some ob → AllNe b sup13 := fun b ob e => allNe_of fun q hq z => by
        have := su13 q hq
        rw [z] at this
        exact absurd (e.symm.trans this) (by simp)
      have e13 := And.intro (ne13 _ _ (N12.get (show (lp, _) ∈ _ by k_mem))) (And.intro (ne13 _ _ (N12.get (show (L' + 1 + 1 + 1, _) ∈ _ by k_mem))) (And.intro (ne13 _ _ (N12.get (show (L' + 1 + 1, _) ∈ _ by k_mem))) (ne13 _ _ (N12.get (show (I, _) ∈ _ by k_mem)))))
      clear F12 N12 ne13
      dsimp only
      k_steps
      show wpAny _ _ _ _ _ _
      rename Fr _ _ _ _ => F14
      rename News _ _ _ _ => N14
      refine sumK rfl (isListNews N14 (by k_mem)) hIm fun h15 tk15 t15 k15 => ?_
      have F15 := frKeep F14 k15
      have N15 := newsKeep N14 k15
      clear F14 N14
      dsimp only
      k_steps
      show wpAny _ _ _ _ _ _
      rename Fr _ _ _ _ => F16
      rename News _ _ _ _ => N16
      refine compI (mineOf r o).length (fun _ => true) (fun j => (((mineOf r o).getD j 0 : Nat) : Int) * (((mineOf r o).getD j 0 : Nat) : Int)) F16 N16 rfl (by decide) rfl (by decide) rfl ?_ (by intro _; rfl)
      refine nameM F16 rfl rfl rfl ?_
      refine srcList (items := vm.toArray) rfl F16 N16 (isListNews N16 (by k_mem)) (by rw [List.size_toArray, hlm]) (by rw [sizeLine_eq]; omega) (by rfl) ?_ ?_ ?_
      · intro C D J gg i v m₁ h tk oI oD E' hi hP hk F N
        exact wpAny_tests_nil ⟨_, _, rfl, Keep.rfl, rfl⟩
      · intro C5 D5 J5 g5 j v m5 h5 tk5 oI5 oD5 E5 hj hP5 _ hk5 F5 N5
        have hjj := hmm j hj
        obtain ⟨t5, e5⟩ := hIm.get j _ (getCast _ _ hj)
        rw [List.getElem?_toArray, e5] at hP5
        obtain rfl := Option.some.inj hP5
        refine wpAny_BinOp (nameAL F5 rfl (by rfl) (by rfl) (nameAL F5 rfl (by rfl) (by rfl) (mul_int ?_ (IntMulOk.of_right (intBits_le_64 (by omega) (by omega))))))
        exact ⟨_, _, _, rfl, Keep.rfl, rfl⟩
      intro J17 h17 n17 k17 D18 vq18 ep18 h18 tk18 F18 N18 l18 hI18 _
      replace hI18 : IntsAre vq18 ((mineOf r o).map fun (k : Nat) => (k : Int) * (k : Int)) := by
        rw [← mapRangeN (mineOf r o) 0 fun k => ((k : Nat) : Int) * (k : Int)]
        exact hI18
      replace F18 : Fr s.heap L' h18 _ := F18
      replace N18 : News s.heap L' h18 _ := N18
      clear F16 N16
      dsimp only
      simp only [AllNe] at l18
      k_steps
      show wpAny _ _ _ _ _ _
      rename Fr _ _ _ _ => F19
      rename News _ _ _ _ => N19
      refine sumK rfl (isListNews N19 (by k_mem)) hI18 fun h20 tk20 t20 k20 => ?_
      have F20 := frKeep F19 k20
      have N20 := newsKeep N19 k20
      clear F19 N19
      dsimp only
      k_steps
      rename Fr _ _ _ _ => F21
      rename News _ _ _ _ => N21
      rename_i D21 hx21 l21 D22 h22 l22
      show wpAny _ _ _ _ _ _
      refine append_at (hsz := by rw [List.size_toArray]; exact Nat.le_trans hus8 (by rw [sizeLine_eq]; decide)) (N21.get (show (lp, _) ∈ _ by k_mem)) fun h23 hs23 g23 => ?_
      refine wpAny_execs_nil ?_
      have q21 := N21.get (show (D21, _) ∈ _ by k_mem)
      rw [List.length_map, List.length_map] at q21
      obtain ⟨o22, o21, o13, w22, w21, w13, hRow⟩ := rowMade (sup := sup) (e := toldEnt r o) (N21.get (show (D22, _) ∈ _ by k_mem)) q21 (N21.get (show (D13, _) ∈ _ by k_mem)) (by
        show Paired _ _ (tableOf (callersOf r o))
        unfold tableOf
        rw [← mapRangeN (firsts (callersOf r o)) 0 fun j => (j, (((callersOf r o).count j : Nat) : Int)), filterTrue]
        exact pairedMap _ hP13)
      have v22 := N21 (D22, _) (show _ ∈ _ by k_mem)
      have v21 := N21 (D21, _) (show _ ∈ _ by k_mem)
      have v13 := N21 (D13, _) (show _ ∈ _ by k_mem)
      have vS : ∀ q ∈ sup ++ sup13, h22.get? q.1 = some q.2 ∧ q.1 ≠ L' ∧ s.heap.get? q.1 = none := fun q hq => N21 q (by
        repeat (first | exact hq | refine List.Mem.tail _ ?_))
      refine ⟨h23, _, _, rfl, F21.change hs23 hpL hp0, (hs23.2 _ (Ne.symm b1)).trans (N21.get (by k_mem)), (hs23.2 _ (show @Ne Nat (L' + 1 + 1) lp by omega)).trans (N21.get (by k_mem)), ⟨_, (hs23.2 _ (Ne.symm hlpf)).trans (N21.get (show (lf, _) ∈ _ by k_mem)), rfl, _, rfl⟩,
        us ++ [.ref D22], ep + 1, (D22, o22) :: (D21, o21) :: (D13, o13) :: (sup ++ sup13), oc7, _, ?_, ?_, d7, ?_, ?_, ?_, ?_, ?_⟩
      · (repeat refine lookNe (by decide) ?_); exact a1
      · rw [hnext]
        exact Paired.snoc (Paired.mono (fun _ _ => RowIs.mono fun _ hp => .tail _ (.tail _ (.tail _ (List.mem_append_left _ hp)))) a2) hRow
      · have n22 : @Ne Nat D22 lp := Nat.ne_of_gt (l22.2.2.2.2.2.2.2.1)
        have n21 : @Ne Nat D21 lp := Nat.ne_of_gt (l21.2.2.2.2.2.2.1)
        have n13 : @Ne Nat D13 lp := Ne.symm (l13.2.2.2.2.1)
        intro q hq
        rcases List.mem_cons.mp hq with rfl | hq
        · refine ⟨?_, hpL, hp0⟩
          have e : (us ++ [Value.ref D22]).toArray = us.toArray.push (.ref D22) := by simp
          rw [e]; exact g23
        rcases List.mem_cons.mp hq with rfl | hq
        · exact ⟨(hs23.2 _ (Ne.symm hlpf)).trans (N21.get (show (lf, _) ∈ _ by k_mem)), hfL, hf0⟩
        rcases List.mem_cons.mp hq with rfl | hq
        · exact ⟨(hs23.2 _ (show @Ne Nat (L' + 1 + 1 + 1) lp by omega)).trans (N21.get (show (L' + 1 + 1 + 1, _) ∈ _ by k_mem)), by show @Ne Nat (L' + 1 + 1 + 1) L'; omega, c30⟩
        rcases List.mem_cons.mp hq with rfl | hq
        · exact ⟨(hs23.2 _ (show @Ne Nat (L' + 1) lp by omega)).trans (N21.get (show (L' + 1, _) ∈ _ by k_mem)), by show @Ne Nat (L' + 1) L'; omega, c10⟩
        rcases List.mem_cons.mp hq with rfl | hq
        · exact ⟨(hs23.2 _ n22).trans w22, v22.2⟩
        rcases List.mem_cons.mp hq with rfl | hq
        · exact ⟨(hs23.2 _ n21).trans w21, v21.2⟩
        rcases List.mem_cons.mp hq with rfl | hq
        · exact ⟨(hs23.2 _ n13).trans w13, v13.2⟩
        · have e := vS q hq
          exact ⟨(hs23.2 _ (allNe_mem (allNe_app a5 e13.1) q hq)).trans e.1, e.2⟩
      · exact ⟨Nat.ne_of_gt (l22.2.2.2.2.2.2.2.1), Nat.ne_of_gt (l21.2.2.2.2.2.2.1), Ne.symm (l13.2.2.2.2.1), allNe_app a5 e13.1⟩
      · exact ⟨Nat.ne_of_gt (l22.2.2.2.2.2.2.2.2.2.1), Nat.ne_of_gt (l21.2.2.2.2.2.2.2.2.1), Ne.symm (l13.2.2.2.2.2.2.1), allNe_app a6 e13.2.1⟩
      · exact ⟨Nat.ne_of_gt (l22.2.2.2.2.2.2.2.2.2.2.1), Nat.ne_of_gt (l21.2.2.2.2.2.2.2.2.2.1), Ne.symm (l13.2.2.2.2.2.2.2.1), allNe_app a7 e13.2.2.1⟩
      · rw [hIn]
        exact ⟨Nat.ne_of_gt (l22.2.2.2.2.2.2.2.2.2.2.2.2.1), Nat.ne_of_gt (l21.2.2.2.2.2.2.2.2.2.2.2.1), Ne.symm (l13.2.2.2.2.2.2.2.2.2), allNe_app a8' e13.2.2.2⟩
  · rintro m' h tk v ⟨us, ep, sup, oc, vc, a1, a2, a3, a4, a5, a6, a7, a8⟩ F cv
    dsimp only
    rw [List.size_toArray, hfs, List.take_of_length_le (Nat.le_of_eq (by unfold toldOf; rw [List.length_map]))] at a2
    have NN : News s.heap L' h [(lp, PySem.W.listOf us.toArray ep)] := fun q hq => by
      rw [List.mem_singleton.mp hq]; exact a4 _ (.head _)
    clear F3 N3 a8 below
    have F : Fr s.heap L' h m' := F
    refine wpAny_execs_cons (wpAny_Return_some (nameM F rfl rfl a1 ?_))
    exact hQ _ _ (ret _ _ _ sup _ _ F.keep hp0 (a4 _ (.head _)).1 a2 fun q hq => ⟨(a4 _ (.tail _ (.tail _ (.tail _ (.tail _ hq))))).1, (a4 _ (.tail _ (.tail _ (.tail _ (.tail _ hq))))).2.2⟩)
end
end Mine
end
namespace Mine
theorem turn19 {M : PySem.Model} {A : PySem.Around} {E : PySem.Value → PySem.Shared → Prop} {s : PySem.Shared} {env : PySem.Env} {Q : PySem.Flow → PySem.Shared → Prop} (h : Q .next s) : PySem.wpAny M A (PySem.execs [] env) Q E s := by
  w_top off
  walk1
  exact h
end Mine
section
open PySem PySem.W PyProof.Rows
set_option maxRecDepth 100000
set_option maxHeartbeats 8000000
namespace Mine
section
variable {prog : Program} {w : World} {A : Around} {s : Shared} {K : Frag} {p : Program} {loose : List Str} {mean : ExcName → Option Value} {mg mb : Str → Option Value} {h₀ : Heap}
  {name qual : Str} {params : Arguments} {body : List Stmt} {scope : Scope} {dV kV doc pm cdv ct oc : Value} {an od : Option Addr} {osl : Array (Option Value)} {f : Addr} {vals : List Value} {binds : List (Str × Value)}
  {Q : Value → Shared → Prop} {E : Value → Shared → Prop} {hid : List (Addr × Obj)}
/-- a def of the top entered, some objects set apart in the ledger -/
theorem enterT (X : K.In h₀) (T : Top p loose mean mg mb h₀) (k0 : Keep h₀ s.heap) (hh : ∀ p ∈ hid, s.heap.get? p.1 = some p.2) (hn : ∀ p ∈ hid, h₀.get? p.1 = none)
    (ho : K.lookup f = some ⟨oc, od, .func (fnOf name qual params body scope dV kV doc pm an cdv ct), osl⟩) (hcd : codeIn K cdv qual = true) (hroom : A.depth < recursionLimit)
    (hbind : BindsTo s (fnOf name qual params body scope dV kV doc pm an cdv ct) ⟨vals, []⟩ binds) (hloc : ∀ y ∈ binds, scope.names.lookup y.1 = some .local)
    (h : ∀ g L' h₁, g = hideAll s.heap (hid.map (·.1)) → Fr g L' h₁ (fun y => binds.reverse.lookup y) → News g L' h₁ hid → K.In g → Top p loose mean mg mb g → Keep h₀ g → (∀ p ∈ hid, p.1 < L') → L' = s.heap.objs.size → Keep s.heap h₁ →
      (∀ {base : Heap} {outer : List Env} {h₂ : Heap} {m₂ : Str → Option Value}, Below A base outer g → Fr g L' h₂ m₂ → News g L' h₂ hid → Below (A.deeper (envOf qual scope L' f cdv)) base (envOf qual scope L' f cdv :: outer) (hideAll h₂ (hid.map (·.1)))) →
      wpAny (model prog w) (A.deeper (envOf qual scope L' f cdv)) (execs body (envOf qual scope L' f cdv))
        (fun fl s' => Q (match fl with | .ret v => v | _ => .none) s')
        (fun e s' => wpAny (model prog w) (A.deeper (envOf qual scope L' f cdv)) (leaving (envOf qual scope L' f cdv) e) (fun _ s'' => E e s'') (fun e' s'' => E e' s'') s')
        { s with heap := h₁, toks := s.toks + binds.length })
    (hco : scope.isCoroutine = false) (hgen : scope.isGenerator = false) (hk : scope.kind = .function)
    (hcell : ∀ x ∈ scope.names, x.2 ≠ .cell) : wpAny (model prog w) A (call (.ref f) vals) Q E s := by
  have kg := hideKeep k0 hn
  have Xs := X.keeps k0
  refine wpAny_call (codeAny_call_def (fd := fnOf name qual params body scope dV kV doc pm an cdv ct) (body := body) (binds := binds) hroom (Xs _ _ ho) rfl (T.nolimit.keeps k0) (codeRec_of Xs hcd) rfl hbind hcell hloc (fun h₁ hns hk₁ => ?_) hco hgen hk)
  exact h _ s.heap.objs.size h₁ rfl ⟨hns, fun b o e => hk₁ b o (of_hideAll _ e), Nat.le_of_eq (hideAll_size _ _)⟩
    (fun p hp => ⟨hk₁ _ _ (hh p hp), Nat.ne_of_lt (Heap.lt_size (hh p hp)), hideAll_none _ (List.mem_map_of_mem hp)⟩) (X.keeps kg) (T.keeps kg) kg (fun p hp => Heap.lt_size (hh p hp)) rfl hk₁
    fun B F N => (groundX (s := { s with heap := _ }) (A := A.deeper _) (R := fun _ _ => True) B F N (Around.frames_deeper B.stack) rfl hk).2.1
end
section
variable {prog : Program} {w : World} {A : Around} {s : Shared} {p : Program} {loose : List Str} {mean : ExcName → Option Value} {mg mb : Str → Option Value} {E : Value → Shared → Prop}
  {base g h : Heap} {outer : List Env} {L e t : Addr} {m : Str → Option Value} {news : List (Addr × Obj)} {env : Env}
/-- a ValueError, caught by the frame in whose try it came up -/
theorem caughtV {vs : List Value} {pos np : Pos} {b₀ : Stmt} {suite : List Stmt} {rest : List ExceptHandler} {Q : Flow → Shared → Prop} (hst : A.frames = some (env :: outer)) (hf : env.frame = some L)
    (R : RaisedK base (env :: outer) e (.type "ValueError") t vs news s.heap)
    (hname : ∀ (s₁ : Shared) (A₁ : Around) (Q₁ E₁ : Value → Shared → Prop), base.StaysIn s₁.heap → s.heap.UpToSlots s₁.heap → Q₁ (.type "ValueError") s₁ → wpAny (model prog w) A₁ (eval (.Name "ValueError" np) env) Q₁ E₁ s₁)
    (k : ∀ h' E₁, base.StaysIn h' → s.heap.UpToSlots h' → (∀ q ∈ news, h'.get? q.1 = some q.2 ∧ base.get? q.1 = none) → wpAny (model prog w) (A.mark (some (.ref e))) (execs (b₀ :: suite) env) Q E₁ { s with heap := h' }) :
    wpAny (model prog w) A (noteFrame (.ref e) env)
      (fun _ s₂ => wpAny (model prog w) A (setFlight (.ref e) none) (fun _ s₃ =>
        wpAny (model prog w) A (handleBy (.ref e) env (.ExceptHandler (some (.Name "ValueError" np)) none (b₀ :: suite) pos :: rest)) Q E s₃) E s₂) E s := by
  obtain ⟨⟨B, hB, hl, hfl, _⟩, _⟩ := R
  refine wpAny_looks_onW hst hf hfl fun h₄ hheld₄ sm₄ => wpAny_landsW hheld₄ fun h₅ hfl₅ sm₅ => ?_
  have st : ∀ {h'}, B.StaysIn h' → base.StaysIn h' := fun k b o q => k b o (hB b o q)
  obtain ⟨ob, hob, hobc⟩ := hfl₅.there
  refine wpAny_handleBy_builtin (X := "ValueError") (T := "ValueError") (b := true) PySem.F.isExc_ValueError PySem.F.notTuple_ValueError (by rw [isSubtype_type]; kernel_rfl) (hname _ _ _ _ (st hfl₅.1) (sm₄.trans sm₅) ⟨rfl, ⟨ob, hob, hobc⟩, ?_⟩)
  rw [if_pos rfl]
  refine lands_againW hfl₅ fun h₆ hfl₆ sm₆ => ?_
  exact k h₆ _ (st hfl₆.1) ((sm₄.trans sm₅).trans sm₆) fun q hq => ⟨hfl₆.1 _ _ (hl q hq).1, (hl q hq).2⟩
end
section
variable {prog : Program} {w : World} {dp un : Nat} {fr : Option (List Env)} {gd : Option (List Code)} {s : Shared} {p : Program} {loose : List Str} {mean : ExcName → Option Value} {mg mb : Str → Option Value} {Q : Value → Shared → Prop} {E : Value → Shared → Prop}
  {g0 : Heap} {outer : List Env} {L : Addr} {m : Str → Option Value} {news : List (Addr × Obj)}
theorem raiseV {A : Around} {rest : List Value} (h : ∀ h' e, Heap.MadeExc s.heap h' e "ValueError" rest → E (.ref e) { s with heap := h' }) (hr : rest.length ≤ sizeLine := by size_fits) : wpAny (model prog w) A (call (.type "ValueError") rest) (Raisable E) E s := by
  obtain ⟨hp, g, d, tk, os⟩ := s
  exact wpAny_call_exc PySem.F.excCall_ValueError (fun h' e hm => raisable_of_new excClass_ValueError hm.newExc (h h' e hm)) hr
local macro_rules
  | `(tactic| walk_at "call type:ValueError") => `(tactic| (refine raiseV ?_; intro _ _ _))
  | `(tactic| walk_at "leaving ref") => `(tactic| kfm_turns)
  | `(tactic| walk_at "call ref") => `(tactic| kfm_turns)
theorem c_refL {lb : Addr} (X : (Mine.K w.params).In g0) (T : Top p loose mean mg mb g0) (hroom : dp + 20 < recursionLimit) (F : Fr g0 L s.heap m) (N : News g0 L s.heap news) (B1 : Below (AR dp un fr gd) g0 outer (hideAll s.heap (news.map (·.1))))
   (ret : ∀ h' tk', Fr g0 L h' m → News g0 L h' news → Q (.bool true) { s with heap := h', toks := tk' }) :
   wpAny (model prog w) (AR dp un fr gd) (call (.ref 112) [.ref 74, .ref lb]) Q E s := by
  w_top off
  refine enterT (binds := [("search", .ref 74), ("bounds", .ref lb)]) (hid := news) X T F.keep (fun p hp => (N p hp).1) (fun p hp => (N p hp).2.2) (by k_is) (by k_is) (by show dp < _; exact room0 hroom) (BindsTo.of_eq rfl) (locs rfl) ?_ rfl rfl rfl (by decide)
  intro g1 L2 h1 hg1 F1 N1 X1 T1 k01 l1 hL2 ks1 gB1
  rw [← hg1] at B1
  k_steps
  show wpAny _ _ _ _ _ _
  have B2 := gB1 B1 F1 N1
  refine enterT (s := ⟨_, _, _, _, _⟩) (h₀ := g1) (binds := [("a", .ref lb), ("x", .int 1 _), ("lo", .int (-1) _), ("hi", .none), ("key", .none)]) (hid := news) X1 T1 F1.keep (fun p hp => (N1 p hp).1) (fun p hp => (N1 p hp).2.2) (by k_is) (by k_is) (by show dp + 1 < _; exact roomK hroom (by decide)) (kp_binds (X1.keeps F1.keep) (fun _ => rfl)) (locs rfl) ?_ rfl rfl rfl (by decide)
  intro g2 L3 h3 hg2 F3 N3 X3 T3 k12 l3 hL3 ks3 gB3
  rw [← hg2] at B2
  k_steps
  show wpAny _ _ _ _ _ _
  rename Heap.MadeExc _ _ _ _ _ => hx
  rename Fr g2 _ _ _ => F4
  rename News g2 _ _ _ => N4
  refine leave_raiseK (s' := ⟨_, _, _, _, _⟩) B2 hx.of F4 N4 fun h5 t5 R5 U5 => ?_
  refine caughtV (s := ⟨_, _, _, _, _⟩) (L := L2) (Around.frames_deeper B1.stack) rfl R5 (fun s₁ A₁ Q₁ E₁ st _ q => PySem.Calls.Name_function_global rfl (by rfl) (PySem.Calls.loadGlobal_builtin (env := envOf _ _ _ _ _) (T.g.keeps st) (mg_none_of X T.g (by k_is)) (T.b.keeps st) ((T.builtins _ (by decide)).trans (by boot_fact)) q) rfl) fun h6 E₁ st up hl => ?_
  refine wpAny_execs_cons (wpAny_Return_some (wpAny_Constant_bool ?_))
  dsimp only
  refine ret h6 _ ⟨((U5.trans up).ns (F.ns.at' fun o e => k12 _ _ ?_)), st, F.above⟩ fun q hq => ⟨(hl q hq).1, (N q hq).2⟩
  rw [hg1]
  refine hideAll_get _ e fun q => ?_
  obtain ⟨p, hp, hpe⟩ := List.mem_map.mp q
  exact (N p hp).2.1 hpe
theorem c_refR {lb : Addr} (X : (Mine.K w.params).In g0) (T : Top p loose mean mg mb g0) (hroom : dp + 20 < recursionLimit) (F : Fr g0 L s.heap m) (N : News g0 L s.heap news) (B1 : Below (AR dp un fr gd) g0 outer (hideAll s.heap (news.map (·.1))))
   (ret : ∀ h' tk', Fr g0 L h' m → News g0 L h' news → Q (.bool true) { s with heap := h', toks := tk' }) :
   wpAny (model prog w) (AR dp un fr gd) (call (.ref 112) [.ref 65, .ref lb]) Q E s := by
  refine enterT (binds := [("search", .ref 65), ("bounds", .ref lb)]) (hid := news) X T F.keep (fun p hp => (N p hp).1) (fun p hp => (N p hp).2.2) (by k_is) (by k_is) (by show dp < _; exact room0 hroom) (BindsTo.of_eq rfl) (locs rfl) ?_ rfl rfl rfl (by decide)
  intro g1 L2 h1 hg1 F1 N1 X1 T1 k01 l1 hL2 ks1 gB1
  rw [← hg1] at B1
  k_steps
  show wpAny _ _ _ _ _ _
  have B2 := gB1 B1 F1 N1
  refine enterT (s := ⟨_, _, _, _, _⟩) (h₀ := g1) (binds := [("a", .ref lb), ("x", .int 1 _), ("lo", .int (-1) _), ("hi", .none), ("key", .none)]) (hid := news) X1 T1 F1.keep (fun p hp => (N1 p hp).1) (fun p hp => (N1 p hp).2.2) (by k_is) (by k_is) (by show dp + 1 < _; exact roomK hroom (by decide)) (kp_binds (X1.keeps F1.keep) (fun _ => rfl)) (locs rfl) ?_ rfl rfl rfl (by decide)
  intro g2 L3 h3 hg2 F3 N3 X3 T3 k12 l3 hL3 ks3 gB3
  rw [← hg2] at B2
  k_steps
  show wpAny _ _ _ _ _ _
  rename Heap.MadeExc _ _ _ _ _ => hx
  rename Fr g2 _ _ _ => F4
  rename News g2 _ _ _ => N4
  refine leave_raiseK (s' := ⟨_, _, _, _, _⟩) B2 hx.of F4 N4 fun h5 t5 R5 U5 => ?_
  refine caughtV (s := ⟨_, _, _, _, _⟩) (L := L2) (Around.frames_deeper B1.stack) rfl R5 (fun s₁ A₁ Q₁ E₁ st _ q => PySem.Calls.Name_function_global rfl (by rfl) (PySem.Calls.loadGlobal_builtin (env := envOf _ _ _ _ _) (T.g.keeps st) (mg_none_of X T.g (by k_is)) (T.b.keeps st) ((T.builtins _ (by decide)).trans (by boot_fact)) q) rfl) fun h6 E₁ st up hl => ?_
  refine wpAny_execs_cons (wpAny_Return_some (wpAny_Constant_bool ?_))
  dsimp only
  refine ret h6 _ ⟨((U5.trans up).ns (F.ns.at' fun o e => k12 _ _ ?_)), st, F.above⟩ fun q hq => ⟨(hl q hq).1, (N q hq).2⟩
  rw [hg1]
  refine hideAll_get _ e fun q => ?_
  obtain ⟨p, hp, hpe⟩ := List.mem_map.mp q
  exact (N p hp).2.1 hpe
end
end Mine
end
section
open PySem PySem.W PySem.Calls PyProof.Rows
set_option maxRecDepth 100000
set_option maxHeartbeats 8000000
namespace Mine
section
variable {prog : Program} {w : World} {A : Around} {E : Value → Shared → Prop} {s : Shared} {env : Env} {h₀ : Heap}
/-- the loop of a comprehension whose target may be a tuple, by a measure -/
theorem loopT {elt target iter : Expr} {ifs : List Expr} {scope : Scope} {pos : Pos} {it acc : Value} {cenv : Env} {R : Result → Shared → Prop} (J : Nat → Shared → Prop)
    (turn : ∀ n s, J n s → wpAny (model prog w) A (pyNext it) (fun r s₁ => match r with
      | none => R (.ok .next) s₁
      | some v => wpAny (model prog w) A (letOwnedTupleGo target it v) (fun _ s₁' => wpAny (model prog w) A (assign target cenv v) (fun _ s₂ =>
          wpAny (model prog w) A (forIn ifs true fun c r => if r = true then do let ok ← isTrue c cenv (eval c cenv); pure (ForInStep.yield ok) else pure (ForInStep.yield r)) (fun ok s₃ =>
            if ok = true then wpAny (model prog w) A (eval elt cenv) (fun x s₄ =>
              wpAny (model prog w) A (call (.builtin "list.append") [acc, x]) (fun _ s₅ => ∃ m, m < n ∧ J m s₅) (notedBy (model prog w) A cenv fun e s' => R (.error e) s') s₄) (notedBy (model prog w) A cenv fun e s' => R (.error e) s') s₃
            else ∃ m, m < n ∧ J m s₃) (notedBy (model prog w) A cenv fun e s' => R (.error e) s') s₂) (notedBy (model prog w) A cenv fun e s' => R (.error e) s') s₁') (notedBy (model prog w) A cenv fun e s' => R (.error e) s') s₁) (notedBy (model prog w) A cenv fun e s' => R (.error e) s') s)
    (n : Nat) (h : J n s) : codeAny (model prog w) A (.compLoop (.ListComp elt [⟨target, iter, ifs, 0⟩] scope pos) 0 it acc cenv) R s := by
  refine codeAny_loop rfl J (fun n s hJ => ?_) n h
  show wpAny _ A ((compTurn (.ListComp elt [⟨target, iter, ifs, 0⟩] scope pos) 0 it acc cenv).onRaise (fun x => do noteFrame x cenv; theTreesLotGoes x)) _ _ s
  refine wpAny_noted ?_
  rw [compTurn_list]
  refine wpAny_bind (wpAny_standAt (wpAny_bind (wpAny_mono (turn n s hJ) (fun r s₁ h₁ => ?_) fun _ _ q => q)))
  cases r with
  | none => exact wpAny_pure h₁
  | some v =>
    refine wpAny_bind (wpAny_mono h₁ (fun _ s₁' h₁' => wpAny_bind (wpAny_mono h₁' (fun _ s₂ h₂ => wpAny_bind (wpAny_mono h₂ (fun ok s₃ h₃ => ?_) fun _ _ q => q)) fun _ _ q => q)) fun _ _ q => q)
    cases ok with
    | false => exact wpAny_pure ⟨rfl, h₃⟩
    | true => exact wpAny_bind (wpAny_bind (wpAny_mono h₃ (fun x s₄ h₄ => wpAny_bind (wpAny_mono h₄ (fun _ s₅ h₅ => wpAny_pure (wpAny_pure ⟨rfl, h₅⟩)) fun _ _ q => q)) fun _ _ q => q))
/-- between the turns of the loop -/
inductive IInv {K : Type} [DecidableEq K] {knd : KeyKind prog w K} (s : Shared) (H : Heap) (I D C d : Addr) (ep : Nat) (kvs : List (K × Value)) (pz : Nat → Bool) (R' : Nat → Value → List (Addr × Obj) → Prop) (k : Nat) (s' : Shared) : Prop
  | mk (h : Heap) (tk : Tok) (m : Str → Option Value) (i : Nat) (ys : List Value) (ep' : Nat) (sup : List (Addr × Obj)) (ok ov : Value) (e : s' = { s with heap := h, toks := tk }) (hti : IsItemIter h I d i kvs.length ep ok ov) (hmi : h.DictAt knd d kvs ep) (F : Fr (hideAll H [I]) C h m) (hD : h.get? D = some (PySem.W.listOf ys.toArray ep'))
    (hS : Sup sup (hideAll H [I]) h) (hS' : ∀ p ∈ sup, p.1 ≠ D ∧ p.1 ≠ I ∧ p.1 ≠ C) (hF : Paired (fun i y => R' i y sup) ((List.range i).filter pz) ys) (hi : i ≤ kvs.length) (kk : k = kvs.length + 1 - i)
/-- a comprehension over a dict's items, as a value -/
theorem compItems {K : Type} [DecidableEq K] {knd : KeyKind prog w K} {elt o : Expr} {xk xv : Str} {pk pv pt apos cpos pos : Pos} {x1 : Nat} {ifs : List Expr} {scope : Scope} {cl : List (Str × Addr)} {Q : Value → Shared → Prop} (pz : Nat → Bool) (R' : Nat → Value → List (Addr × Obj) → Prop)
    (hmono : ∀ i y sup sup', R' i y sup → (∀ p ∈ sup, p ∈ sup') → R' i y sup') {d : Addr} {ep : Nat} {kvs : List (K × Value)} {m : Str → Option Value} {news : List (Addr × Obj)}
    (hh : A.handled = none) (hdS : (d == sysModules) = false) (hm : s.heap.DictAt knd d kvs ep) (hsz : kvs.length ≤ sizeLine) (F : Fr h₀ env.locals s.heap m) (N : News h₀ env.locals s.heap news)
    (hbase : attributeBase o "items" env (eval o env) = eval o env) (hline : (apos.endLine == cpos.line) = true) (ho : ∀ Q', Q' (.ref d) s → wpAny (model prog w) A (eval o env) Q' E s)
    (hclos : closureFor scope env = pure cl) (hcell : ∀ y ∈ scope.names, y.2 ≠ .cell) (hkind : scope.kind = .function)
    (hnames : ∀ y ∈ scope.names, y.2 = .local → scope.names.lookup y.1 = some .local) (hxk : scope.names.lookup xk = some .local) (hxv : scope.names.lookup xv = some .local)
    (ht : ∀ C D I g i k v key (m₁ : Str → Option Value) h tk oI oD E', kvs[i]? = some (k, v) → knd.is k key = true → Keep s.heap g → Fr g C h (fun z => if z = xv then some v else if z = xk then some key else m₁ z) → News g C h [(D, oD), (I, oI)] →
      wpAny (model prog w) A (forIn ifs true fun c r => if r = true then do let ok ← isTrue c (compEnvC scope cl C env) (eval c (compEnvC scope cl C env)); pure (ForInStep.yield ok) else pure (ForInStep.yield r))
        (fun ok s₃ => Hold (∃ h' tk', s₃ = { s with heap := h', toks := tk' } ∧ Keep h h' ∧ ok = pz i)) E' { s with heap := h, toks := tk })
    (he : ∀ C D I g i k v key (m₁ : Str → Option Value) h tk oI oD E', kvs[i]? = some (k, v) → pz i = true → knd.is k key = true → Keep s.heap g → Fr g C h (fun z => if z = xv then some v else if z = xk then some key else m₁ z) → News g C h [(D, oD), (I, oI)] →
      wpAny (model prog w) A (eval elt (compEnvC scope cl C env)) (fun y s₃ => Hold (∃ h' tk' sup, s₃ = { s with heap := h', toks := tk' } ∧ Keep h h' ∧ Sup sup h h' ∧ R' i y sup)) E' { s with heap := h, toks := tk })
    (hQ : ∀ D ys ep' sup h' tk, Fr h₀ env.locals h' m → News h₀ env.locals h' ((D, PySem.W.listOf (ys : List Value).toArray ep') :: (news ++ sup)) → AllNe D news → AllNe D sup → (∀ q ∈ sup, s.heap.get? q.1 = none) →
      Paired (fun i y => R' i y sup) ((List.range kvs.length).filter pz) ys → Q (.ref D) { s with heap := h', toks := tk })
    (hs : ∀ x, foldedSetIterable (.Call (.Attribute o "items" apos) [] [] cpos) env x = pure x := by intro _; rfl) :
    wpAny (model prog w) A (eval (.ListComp elt [⟨.Tuple [.Name xk pk, .Name xv pv] x1 pt, .Call (.Attribute o "items" apos) [] [] cpos, ifs, 0⟩] scope pos) env) Q E s := by
  rw [eval_ListComp]
  refine wpAny_comprehension_free (use := none) rfl hs hclos hkind hnames (wpAny_Call_items (knd := knd) hdS hm.dictOf hbase hline ho ?_)
  refine wpAny_pyIter_items (knd := knd) (d := d) (kvs := kvs) (ep := ep) ⟨_, Heap.get?_push_size _ rfl, rfl, rfl⟩ (hm.push _) ?_
  have hd : @LT.lt Nat _ d s.heap.objs.size := hm.lt_size
  have none_of : ∀ a, s.heap.objs.size ≤ a → s.heap.get? a = none := fun a ha => by
    cases e : s.heap.get? a with
    | none => rfl
    | some o' => exact absurd (Heap.lt_size e) (Nat.not_lt.mpr ha)
  have hm₂ := (hm.push { cls := .type "dict_items", data := .fields #[.ref d] })
  generalize hHv : s.heap.push { cls := .type "dict_items", data := .fields #[.ref d] } = Hv at hm₂ ⊢
  have zv : Hv.objs.size = s.heap.objs.size + 1 := by rw [← hHv, Heap.size_push]
  have up₁ : ∀ b o, s.heap.get? b = some o → Hv.get? b = some o := fun b o e => hHv ▸ Heap.get?_push_of_some _ e
  generalize hI : Hv.objs.size = I
  have hI0 : s.heap.get? I = none := none_of I (by omega)
  have hm₃ := hm₂.push { cls := .type "dict_itemiterator", data := .fields #[.none, .bool false, .ref d, .int 0 0, .int kvs.length 0, .int ep 0, .none, .none] }
  have up₂ : ∀ b o, s.heap.get? b = some o → (Hv.push { cls := .type "dict_itemiterator", data := .fields #[.none, .bool false, .ref d, .int 0 0, .int kvs.length 0, .int ep 0, .none, .none] }).get? b = some o := fun b o e => Heap.get?_push_of_some _ (up₁ b o e)
  have hit : IsItemIter (Hv.push { cls := .type "dict_itemiterator", data := .fields #[.none, .bool false, .ref d, .int 0 0, .int kvs.length 0, .int ep 0, .none, .none] }) I d 0 kvs.length ep .none .none := by
    rw [← hI]; exact Heap.get?_push_size _ rfl
  have hlast := fun a (q : s.heap.objs.size + 2 ≤ a) => q
  have zi : (Hv.push { cls := .type "dict_itemiterator", data := .fields #[.none, .bool false, .ref d, .int 0 0, .int kvs.length 0, .int ep 0, .none, .none] }).objs.size = s.heap.objs.size + 2 := by rw [Heap.size_push, zv]
  generalize (Hv.push { cls := .type "dict_itemiterator", data := .fields #[.none, .bool false, .ref d, .int 0 0, .int kvs.length 0, .int ep 0, .none, .none] }) = H at *
  have zI : I = s.heap.objs.size + 1 := by rw [← hI, zv]
  clear hm₂ hHv up₁ hI zv hlast
  refine wpAny_newObj_type (wpAny_newFunctionEnv hcell (by intro y hy; simp at hy) (fun h₁ hns₁ hsb₁ => ?_) hkind)
  dsimp only at hns₁ hsb₁ ⊢
  generalize hH2 : H.push { cls := .type "list", dict := none, data := .seq ([] : List Value).toArray } = H2 at hns₁ hsb₁ ⊢
  have hC : H2.objs.size = s.heap.objs.size + 3 := by rw [← hH2, Heap.size_push, zi]
  have hDC : H.objs.size ≠ H2.objs.size := by rw [hC, zi]; exact Nat.ne_of_lt (Nat.lt_succ_self _)
  have old : ∀ b o, H.get? b = some o → h₁.get? b = some o := fun b o e => hsb₁.extBut b o (by have : @LT.lt Nat _ b H.objs.size := Heap.lt_size e; exact Nat.ne_of_lt (by omega)) (Heap.get?_push_of_some _ (hH2 ▸ Heap.get?_push_of_some _ e))
  have hacc : h₁.get? H.objs.size = some (PySem.W.listOf #[] 0) := hsb₁.extBut _ _ hDC (Heap.get?_push_of_some _ (hH2 ▸ Heap.get?_push_size _ rfl))
  have hDI : H.objs.size ≠ I := by rw [zi, zI]; exact Nat.ne_of_gt (Nat.lt_succ_self _)
  have hCI : H2.objs.size ≠ I := by rw [hC, zI]; exact Nat.ne_of_gt (by omega)
  have hdI : d ≠ I := by rw [zI]; exact Nat.ne_of_lt (by omega)
  have hdD : d ≠ H.objs.size := by rw [zi]; exact Nat.ne_of_lt (by omega)
  have hdC : d ≠ H2.objs.size := by rw [hC]; exact Nat.ne_of_lt (by omega)
  have hD0 : s.heap.get? H.objs.size = none := none_of _ (by omega)
  have hC0 : s.heap.get? H2.objs.size = none := none_of _ (by omega)
  generalize hDv : H.objs.size = D at *
  generalize hCv : H2.objs.size = C at *
  have kb : Keep s.heap (hideAll H [I]) := hideK up₂ hI0
  have gI : (hideAll H [I]).get? I = none := hideAll_none _ (.head _)
  have gD : (hideAll H [I]).get? D = none := by
    cases q : (hideAll H [I]).get? D with
    | none => rfl
    | some o => have : @LT.lt Nat _ D H.objs.size := Heap.lt_size (of_hideAll _ q); omega
  have Fr₁ : Fr (hideAll H [I]) C h₁ (fun z => ([] : List (Str × Value)).reverse.lookup z) := ⟨hns₁, fun b o e => old b o (of_hideAll _ e), by rw [hideAll_size]; omega⟩
  have hm₄ : h₁.DictAt knd d kvs ep := hm₃.at' fun o e => old _ _ e
  have hit₁ : IsItemIter h₁ I d 0 kvs.length ep .none .none := old _ _ hit
  have loop : ∀ s₃ : Shared, s₃ = { s with heap := h₁, toks := s.toks + ([] : List (Str × Value)).length } →
      codeAny (model prog w) A (.compLoop (.ListComp elt [⟨.Tuple [.Name xk pk, .Name xv pv] x1 pt, .Call (.Attribute o "items" apos) [] [] cpos, ifs, 0⟩] scope pos) 0 (.ref I) (.ref D) (compEnvC scope cl C env))
        (compPost (model prog w) A E none Q (.ref D) C) s₃ := by
    rintro s₃ rfl
    refine loopT
      (IInv (knd := knd) s H I D C d ep kvs pz R') ?_ (kvs.length + 1)
      ⟨h₁, _, _, 0, [], 0, [], _, _, rfl, hit₁, hm₄, Fr₁, hacc, (fun _ h => nomatch h), (fun _ h => nomatch h), .nil, Nat.zero_le _, rfl⟩
    rintro k s' ⟨h, tk, m₁, i, ys, ep', sup, ok, ov, rfl, hti, hmi, F₁, hD, hS, hS', hF, hi, rfl⟩
    have mv : ∀ (h' : Heap) (m' : Str → Option Value), (∀ b o, b ≠ I → b ≠ C → h.get? b = some o → h'.get? b = some o) → h'.Ns C m' → Fr (hideAll H [I]) C h' m' ∧ h'.DictAt knd d kvs ep ∧ h'.get? D = some (PySem.W.listOf ys.toArray ep') ∧ Sup sup (hideAll H [I]) h' := fun h' m' kk hn =>
      ⟨⟨hn, fun b o e => kk b o (fun q => by rw [q, gI] at e; cases e) (fun q => by
          rw [q] at e
          exact absurd (Nat.lt_of_lt_of_le (Heap.lt_size e) F₁.above) (Nat.lt_irrefl _)) (F₁.keep b o e), F₁.above⟩, hmi.at' fun o e => kk _ _ hdI hdC e, kk _ _ hDI hDC hD, fun p hp => ⟨kk _ _ (hS' p hp).2.1 (hS' p hp).2.2 (hS p hp).1, (hS p hp).2⟩⟩
    cases hv : kvs[i]? with
    | none =>
      have hsz' : i = kvs.length := Nat.le_antisymm hi (by simpa using hv)
      subst hsz'
      refine wpAny_pyNext_items_end hh hti hmi hv fun h₂ he₂ => ?_
      obtain ⟨F₂, _, hD₂, hS₂⟩ := mv h₂ m₁ (fun b o hb _ e => he₂ b o hb e) (F₁.ns.extBut he₂ hCI)
      refine ⟨m₁, F₂.ns, fun h₃ hs₃ => ?_⟩
      have kk : Keep s.heap h₃ := fun b o e => (hs₃.2 b fun q => by rw [q, hC0] at e; cases e).trans (F₂.keep b o (kb b o e))
      have nL : ∀ b, s.heap.get? b = none → b ≠ env.locals ∧ h₀.get? b = none := fun b q => by
        refine ⟨fun e => ?_, freshOf F.keep q⟩
        obtain ⟨oL, _, _, hL, _⟩ := F.ns
        rw [e, hL] at q
        cases q
      have hsup0 : ∀ q ∈ sup, s.heap.get? q.1 = none := fun q hq => freshOf kb (hS₂ q hq).2
      have ne2 : ∀ (su : List (Addr × Obj)), (∀ p ∈ su, p.1 ≠ D) → AllNe D su := fun su q => allNe_of q
      refine hQ D ys ep' sup h₃ tk (frKeep F kk) ?_ (newsNe hD0 N) (ne2 sup fun p hp => (hS' p hp).1) hsup0 hF
      intro p hp
      rcases List.mem_cons.mp hp with rfl | hp
      · exact ⟨(hs₃.2 D hDC).trans hD₂, nL _ hD0⟩
      rcases List.mem_append.mp hp with hp | hp
      · exact ⟨kk _ _ (N p hp).1, (N p hp).2⟩
      · exact ⟨(hs₃.2 _ (hS' p hp).2.2).trans (hS₂ p hp).1, nL _ (hsup0 p hp)⟩
    | some kv =>
      obtain ⟨k, v⟩ := kv
      have hlt : i < kvs.length := (List.getElem?_eq_some_iff.mp hv).1
      refine nextPair (env := compEnvC scope cl C env) hh (lookup_relabel_local hxk) (lookup_relabel_local hxv) (by simp [compEnvC, relabel, hkind]) hti hmi hv F₁.ns (Ne.symm hCI) fun key h₂ tk₂ hkey hn₂ hti₂ hk₂ => ?_
      obtain ⟨F₂, hm₂, hD₂, hS₂⟩ := mv h₂ _ hk₂ hn₂
      have N₂ : ∀ h₃ : Heap, Keep h₂ h₃ → News (hideAll H [I]) C h₃ [(D, PySem.W.listOf ys.toArray ep'), (I, _)] := fun h₃ kk p hp => by
        rcases List.mem_cons.mp hp with rfl | hp
        · exact ⟨kk _ _ hD₂, hDC, gD⟩
        · rw [List.mem_singleton.mp hp]; exact ⟨kk _ _ hti₂, Ne.symm hCI, gI⟩
      refine wpAny_mono (ht C D I _ i k v key m₁ h₂ tk₂ _ _ _ hv hkey kb F₂ (N₂ _ Keep.rfl)) (fun ok₃ s₃ h₃ => ?_) fun _ _ e => e
      obtain ⟨h₃, tk₃, rfl, k₃, rfl⟩ := h₃
      cases hz : pz i with
      | false =>
        simp only [Bool.false_eq_true, if_false]
        refine ⟨kvs.length + 1 - (i + 1), by omega, h₃, tk₃, _, i + 1, ys, ep', sup, _, _, rfl, k₃ _ _ hti₂, hm₂.keep k₃, frKeep F₂ k₃, k₃ _ _ hD₂, fun p hp => ⟨k₃ _ _ (hS₂ p hp).1, (hS₂ p hp).2⟩, hS', ?_, hlt, rfl⟩
        rw [range_filter_succ, hz]
        simpa using hF
      | true =>
        simp only [if_true]
        refine wpAny_mono (he C D I _ i k v key m₁ h₃ tk₃ _ _ _ hv hz hkey kb (frKeep F₂ k₃) (N₂ _ k₃)) (fun y s₄ h₄ => ?_) fun _ _ e => e
        obtain ⟨h₄, tk₄, sup₄, rfl, k₄, hS₄, hR₄⟩ := h₄
        have k₂₄ : Keep h₂ h₄ := Keep.trans k₃ k₄
        have hyl : ys.length ≤ kvs.length := by
          have h1 := hF.length
          have h2 := List.length_filter_le pz (List.range i)
          rw [List.length_range] at h2
          omega
        refine append_at (hsz := by show ys.toArray.size ≤ sizeLine; rw [List.size_toArray]; exact Nat.le_trans hyl hsz) (k₂₄ _ _ hD₂) fun h₅ hs₅ hD₅ => ?_
        have up : ∀ b o, b ≠ D → h₄.get? b = some o → h₅.get? b = some o := fun b o q e => (hs₅.2 b q).trans e
        have F₄ := frKeep F₂ k₂₄
        have F₅ : Fr (hideAll H [I]) C h₅ (fun z => if z = xv then some v else if z = xk then some key else m₁ z) := F₄.change hs₅ hDC gD
        have ne₄ : ∀ p ∈ sup₄, p.1 ≠ D ∧ p.1 ≠ I ∧ p.1 ≠ C := fun p hp => by
          have hn := (hS₄ p hp).2
          refine ⟨fun q => ?_, fun q => ?_, fun q => ?_⟩
          · rw [q, k₃ _ _ hD₂] at hn; cases hn
          · rw [q, k₃ _ _ hti₂] at hn; cases hn
          · obtain ⟨oL, _, _, hL, _⟩ := (frKeep F₂ k₃).ns
            rw [q, hL] at hn; cases hn
        refine ⟨kvs.length + 1 - (i + 1), by omega, h₅, tk₄, _, i + 1, ys ++ [y], ep' + 1, sup ++ sup₄, _, _, rfl, up _ _ (Ne.symm hDI) (k₂₄ _ _ hti₂), (hm₂.keep k₂₄).at' fun o e => up _ _ hdD e, F₅, ?_, ?_, ?_, ?_, hlt, rfl⟩
        · rw [hD₅]; simp
        · intro p hp
          rcases List.mem_append.mp hp with hp | hp
          · exact ⟨up _ _ (hS' p hp).1 (k₂₄ _ _ (hS₂ p hp).1), (hS₂ p hp).2⟩
          · refine ⟨up _ _ (ne₄ p hp).1 (hS₄ p hp).1, ?_⟩
            cases q : (hideAll H [I]).get? p.1 with
            | none => rfl
            | some o => have := (hS₄ p hp).2; rw [(frKeep F₂ k₃).keep _ _ q] at this; cases this
        · intro p hp
          rcases List.mem_append.mp hp with hp | hp
          · exact hS' p hp
          · exact ne₄ p hp
        · rw [range_filter_succ, hz]
          simp only [if_true]
          exact Paired.snoc (Paired.mono (fun i y r => hmono i y _ _ r fun p hp => List.mem_append_left _ hp) hF) (hmono i y _ _ hR₄ fun p hp => List.mem_append_right _ hp)
  exact codeAny_compStart_list (loop _ rfl) (kcp_self hit₁ (loop _ rfl))
end
end Mine
end
section
open PySem PySem.W PyProof.Rows
set_option maxRecDepth 100000
namespace Mine
def ownF (e0 e1 e2 e3 T : Int) : Fin 5 := if T < e0 then 0 else if T < e0 + e1 then 1 else if T < e0 + e1 + e2 then 2 else if T < e0 + e1 + e2 + e3 then 3 else 4
theorem ownF_val (e0 e1 e2 e3 T : Int) : ((ownF e0 e1 e2 e3 T).val : Int) = own e0 e1 e2 e3 T := by
  unfold ownF own
  repeat' split
  all_goals rfl
/-- the row, as the figures of the five -/
def rowF (c0 c1 c2 c3 start grand : Int) (mn : Nat) : List (Fin 5) := (List.range mn).map fun (k : Nat) => ownF (c0 * (mn : Int)) (c1 * (mn : Int)) (c2 * (mn : Int)) (c3 * (mn : Int)) (start + grand * (k : Int))
def rowN (c0 c1 c2 c3 start grand : Int) (mn : Nat) (k : Nat) : Int := own (c0 * (mn : Int)) (c1 * (mn : Int)) (c2 * (mn : Int)) (c3 * (mn : Int)) (start + grand * (k : Int))
theorem nums_row (c0 c1 c2 c3 start grand : Int) (mn : Nat) : nums5 (rowF c0 c1 c2 c3 start grand mn) = (List.range mn).map (rowN c0 c1 c2 c3 start grand mn) := by
  unfold nums5 rowF rowN
  rw [List.map_map]
  exact List.map_congr_left fun k _ => ownF_val _ _ _ _ _
theorem row_len (c0 c1 c2 c3 start grand : Int) (mn : Nat) : (rowF c0 c1 c2 c3 start grand mn).length = mn := by simp [rowF]
section
variable {c0 c1 c2 c3 c4 start grand : Int} {mn : Nat}
theorem tk_lt (hs : 0 ≤ start ∧ start < grand) {k : Nat} (hk : k < mn) : 0 ≤ start + grand * (k : Int) ∧ start + grand * (k : Int) < grand * (mn : Int) := by
  have h1 : 0 ≤ grand * (k : Int) := Int.mul_nonneg (by omega) (by omega)
  have h2 : grand * ((k : Int) + 1) ≤ grand * (mn : Int) := Int.mul_le_mul_of_nonneg_left (by omega) (by omega)
  rw [Int.mul_add, Int.mul_one] at h2
  omega
theorem tot (hg : c0 + c1 + c2 + c3 + c4 = grand) : c0 * (mn : Int) + c1 * (mn : Int) + c2 * (mn : Int) + c3 * (mn : Int) + c4 * (mn : Int) = grand * (mn : Int) := by
  rw [← hg, Int.add_mul, Int.add_mul, Int.add_mul, Int.add_mul]
theorem rowEq (h0 : 0 ≤ c0) (h1 : 0 ≤ c1) (h2 : 0 ≤ c2) (h3 : 0 ≤ c3) (h4 : 0 ≤ c4) (hg : c0 + c1 + c2 + c3 + c4 = grand) (hs : 0 ≤ start ∧ start < grand) (hm : 1 ≤ mn) :
    pickNums (partsTo [c0, c1, c2, c3, c4] (mn : Int) 5) (some start) none (some grand) = nums5 (rowF c0 c1 c2 c3 start grand mn) := by
  have m0 : 0 ≤ c0 * (mn : Int) := Int.mul_nonneg h0 (by omega)
  have m1 : 0 ≤ c1 * (mn : Int) := Int.mul_nonneg h1 (by omega)
  have m2 : 0 ≤ c2 * (mn : Int) := Int.mul_nonneg h2 (by omega)
  have m3 : 0 ≤ c3 * (mn : Int) := Int.mul_nonneg h3 (by omega)
  have m4 : 0 ≤ c4 * (mn : Int) := Int.mul_nonneg h4 (by omega)
  have ht := tot (mn := mn) hg
  rw [pick_every hs.1 hs.2 hm ((parts_len m0 m1 m2 m3 m4).trans ht), nums_row]
  refine List.map_congr_left fun k hk => ?_
  have := tk_lt hs (List.mem_range.mp hk)
  exact parts_own m0 m1 m2 m3 m4 this.1 (by rw [ht]; exact this.2)
theorem cutd {U many T : Int} (hu : 0 < U) (hm : 0 < many) : Cutd (c0 * U) (c0 * U + c1 * U) (c0 * U + c1 * U + c2 * U) (c0 * U + c1 * U + c2 * U + c3 * U) (c0 * U + c1 * U + c2 * U + c3 * U + c4 * U) (c0 * many) (c1 * many) (c2 * many) (c3 * many) (c4 * many) (U * T / many) T := by
  have k := fun S => tick_iff (S := S) (T := T) hu hm
  refine ⟨k c0, ?_, ?_, ?_, ?_⟩
  · have := k (c0 + c1); rwa [Int.add_mul, Int.add_mul] at this
  · have := k (c0 + c1 + c2); rwa [Int.add_mul, Int.add_mul, Int.add_mul, Int.add_mul] at this
  · have := k (c0 + c1 + c2 + c3); rwa [Int.add_mul, Int.add_mul, Int.add_mul, Int.add_mul, Int.add_mul, Int.add_mul] at this
  · have := k (c0 + c1 + c2 + c3 + c4); rwa [Int.add_mul, Int.add_mul, Int.add_mul, Int.add_mul, Int.add_mul, Int.add_mul, Int.add_mul, Int.add_mul] at this
theorem rowStands {U : Int} (hu : 0 < U) (h0 : 0 ≤ c0) (h1 : 0 ≤ c1) (h2 : 0 ≤ c2) (h3 : 0 ≤ c3) (h4 : 0 ≤ c4) (hg : c0 + c1 + c2 + c3 + c4 = grand) (hs : 0 ≤ start ∧ start < grand) (k : Nat) (hk : k < mn) :
    Stands (c0 * U) (c0 * U + c1 * U) (c0 * U + c1 * U + c2 * U) (c0 * U + c1 * U + c2 * U + c3 * U) (c0 * U + c1 * U + c2 * U + c3 * U + c4 * U) (U * (start + (k : Int) * grand) / (mn : Int)) (rowN c0 c1 c2 c3 start grand mn k) := by
  have m := tk_lt hs hk
  rw [Int.mul_comm (k : Int) grand]
  exact stands_own (cutd (c4 := c4) hu (by omega)) (Int.mul_nonneg h0 (by omega)) (Int.mul_nonneg h1 (by omega)) (Int.mul_nonneg h2 (by omega)) (Int.mul_nonneg h3 (by omega)) (Int.mul_nonneg h4 (by omega)) (by rw [tot hg]; exact m.2)
/-- where the parts of one begin -/
def fromTo (c0 c1 c2 c3 many : Int) (i : Fin 5) : Int := match i with
  | 0 => 0
  | 1 => c0 * many
  | 2 => c0 * many + c1 * many
  | 3 => c0 * many + c1 * many + c2 * many
  | 4 => c0 * many + c1 * many + c2 * many + c3 * many
theorem fin_iff {f : Fin 5} (i : Fin 5) {L U : Prop} (h1 : (i.val : Int) - 1 < (f.val : Int) → L) (h1' : (f.val : Int) ≤ (i.val : Int) - 1 → ¬ L) (h2 : (f.val : Int) ≤ (i.val : Int) → U) (h2' : (i.val : Int) < (f.val : Int) → ¬ U) : f = i ↔ L ∧ U := by
  refine ⟨fun e => by subst e; exact ⟨h1 (by omega), h2 (Int.le_refl _)⟩, fun ⟨l, u⟩ => Fin.ext ?_⟩
  have a : ¬ (f.val : Int) ≤ (i.val : Int) - 1 := fun q => h1' q l
  have b : ¬ (i.val : Int) < (f.val : Int) := fun q => h2' q u
  clear h1 h1' h2 h2'
  omega
theorem own_iff {e0 e1 e2 e3 e4 T : Int} (m0 : 0 ≤ e0) (m1 : 0 ≤ e1) (m2 : 0 ≤ e2) (m3 : 0 ≤ e3) (h0 : 0 ≤ T) (hT : T < e0 + e1 + e2 + e3 + e4) :
    (ownF e0 e1 e2 e3 T = 0 ↔ 0 ≤ T ∧ T < 0 + e0) ∧ (ownF e0 e1 e2 e3 T = 1 ↔ e0 ≤ T ∧ T < e0 + e1) ∧ (ownF e0 e1 e2 e3 T = 2 ↔ e0 + e1 ≤ T ∧ T < e0 + e1 + e2) ∧ (ownF e0 e1 e2 e3 T = 3 ↔ e0 + e1 + e2 ≤ T ∧ T < e0 + e1 + e2 + e3) ∧ (ownF e0 e1 e2 e3 T = 4 ↔ e0 + e1 + e2 + e3 ≤ T ∧ T < e0 + e1 + e2 + e3 + e4) := by
  have O := owns (T := T) (le1 (a := e0) m1) (le1 (a := e0 + e1) m2) (le1 (a := e0 + e1 + e2) m3)
  change Owns _ _ _ _ _ (own e0 e1 e2 e3 T) at O
  rw [← ownF_val] at O
  generalize ownF e0 e1 e2 e3 T = f at O ⊢
  rw [Int.zero_add]
  have n := fun {a : Int} (h : ¬ T < a) => Int.not_lt.mp h
  have n' := fun {a : Int} (h : T < a) => Int.not_le.mpr h
  exact ⟨fin_iff 0 (fun _ => h0) (fun q => absurd (Int.le_trans O.lo q) (by decide)) O.o1.2 O.o1.1,
    fin_iff 1 (fun q => n (O.o1.1 q)) (fun q => n' (O.o1.2 q)) O.o2.2 O.o2.1,
    fin_iff 2 (fun q => n (O.o2.1 q)) (fun q => n' (O.o2.2 q)) O.o3.2 O.o3.1,
    fin_iff 3 (fun q => n (O.o3.1 q)) (fun q => n' (O.o3.2 q)) O.o4.2 O.o4.1,
    fin_iff 4 (fun q => n (O.o4.1 q)) (fun q => n' (O.o4.2 q)) (fun _ => hT) (fun q => absurd O.hi (Int.not_le.mpr q))⟩
theorem mine_len {a e : Int} {i : Fin 5} {r : List (Fin 5)} (hr : r = rowF c0 c1 c2 c3 start grand mn)
    (hiff : ∀ k : Nat, k < mn → (ownF (c0 * (mn : Int)) (c1 * (mn : Int)) (c2 * (mn : Int)) (c3 * (mn : Int)) (start + grand * (k : Int)) = i ↔ a ≤ start + grand * (k : Int) ∧ start + grand * (k : Int) < a + e)) :
    (mineOf r i).length = ((List.range mn).filter fun (k : Nat) => decide (a ≤ start + grand * (k : Int) ∧ start + grand * (k : Int) < a + e)).length := by
  subst hr
  unfold mineOf
  rw [row_len]
  congr 1
  refine List.filter_congr fun k hk => ?_
  have hk := List.mem_range.mp hk
  have e : (rowF c0 c1 c2 c3 start grand mn).getD k 0 = ownF (c0 * (mn : Int)) (c1 * (mn : Int)) (c2 * (mn : Int)) (c3 * (mn : Int)) (start + grand * (k : Int)) := by
    unfold rowF
    simp [hk]
  rw [e]
  exact decide_eq_decide.mpr (hiff k hk)
/-- nobody has a whole tick more or less than the calls' share -/
theorem fair (h0 : 0 ≤ c0) (h1 : 0 ≤ c1) (h2 : 0 ≤ c2) (h3 : 0 ≤ c3) (h4 : 0 ≤ c4) (hg : c0 + c1 + c2 + c3 + c4 = grand) (hs : 0 ≤ start ∧ start < grand) (i : Fin 5) :
    ((mineOf (rowF c0 c1 c2 c3 start grand mn) i).length : Int) * grand - [c0, c1, c2, c3, c4].getD i.val 0 * (mn : Int) < grand ∧ -grand < ((mineOf (rowF c0 c1 c2 c3 start grand mn) i).length : Int) * grand - [c0, c1, c2, c3, c4].getD i.val 0 * (mn : Int) := by
  have m0 : 0 ≤ c0 * (mn : Int) := Int.mul_nonneg h0 (by omega)
  have m1 : 0 ≤ c1 * (mn : Int) := Int.mul_nonneg h1 (by omega)
  have m2 : 0 ≤ c2 * (mn : Int) := Int.mul_nonneg h2 (by omega)
  have m3 : 0 ≤ c3 * (mn : Int) := Int.mul_nonneg h3 (by omega)
  have m4 : 0 ≤ c4 * (mn : Int) := Int.mul_nonneg h4 (by omega)
  have ht := tot (mn := mn) hg
  have iff5 := fun (k : Nat) (hk : k < mn) => own_iff (e4 := c4 * (mn : Int)) m0 m1 m2 m3 (tk_lt hs hk).1 (by rw [ht]; exact (tk_lt hs hk).2)
  match i with
  | 0 => exact share (many := mn) hs.1 hs.2 (a := 0) (e := c0 * (mn : Int)) (by omega) m0 (by omega) _ (by rw [mine_len (a := 0) (e := c0 * (mn : Int)) rfl fun k hk => (iff5 k hk).1])
  | 1 => exact share (many := mn) hs.1 hs.2 (a := c0 * (mn : Int)) (e := c1 * (mn : Int)) m0 m1 (by omega) _ (by rw [mine_len rfl fun k hk => (iff5 k hk).2.1])
  | 2 => exact share (many := mn) hs.1 hs.2 (a := c0 * (mn : Int) + c1 * (mn : Int)) (e := c2 * (mn : Int)) (by omega) m2 (by omega) _ (by rw [mine_len rfl fun k hk => (iff5 k hk).2.2.1])
  | 3 => exact share (many := mn) hs.1 hs.2 (a := c0 * (mn : Int) + c1 * (mn : Int) + c2 * (mn : Int)) (e := c3 * (mn : Int)) (by omega) m3 (by omega) _ (by rw [mine_len rfl fun k hk => (iff5 k hk).2.2.2.1])
  | 4 => exact share (many := mn) hs.1 hs.2 (a := c0 * (mn : Int) + c1 * (mn : Int) + c2 * (mn : Int) + c3 * (mn : Int)) (e := c4 * (mn : Int)) (by omega) m4 (by omega) _ (by rw [mine_len rfl fun k hk => (iff5 k hk).2.2.2.2])
end
end Mine
end
section
open PySem PySem.W PySem.Calls PyProof.Rows
set_option maxRecDepth 100000
set_option maxHeartbeats 8000000
namespace Mine
theorem abcSign : ∀ i : Nat, ∀ v : Value, SignAt "abcde" i v → ∃ (k : Fin 5) (u : Tok), k.val = i ∧ v = .str (nmS k) u
  | 0, v, ⟨c, u, hc, e⟩ => by subst e; cases hc; exact ⟨0, u, rfl, rfl⟩
  | 1, v, ⟨c, u, hc, e⟩ => by subst e; cases hc; exact ⟨1, u, rfl, rfl⟩
  | 2, v, ⟨c, u, hc, e⟩ => by subst e; cases hc; exact ⟨2, u, rfl, rfl⟩
  | 3, v, ⟨c, u, hc, e⟩ => by subst e; cases hc; exact ⟨3, u, rfl, rfl⟩
  | 4, v, ⟨c, u, hc, e⟩ => by subst e; cases hc; exact ⟨4, u, rfl, rfl⟩
  | n + 5, v, ⟨c, u, hc, e⟩ => by
    have : (n + 5) < 5 := (Array.getElem?_eq_some_iff.mp hc).1
    omega
section
variable {prog : Program} {w : World} {A : Around} {E : Value → Shared → Prop} {s : Shared} {env : Env} {scope : Scope} {cl : List (Str × Addr)} {x : Str} {ifs : List Expr} {elt : Expr} {pz : Nat → Bool} {f : Nat → Int} {h₀ : Heap} {m : Str → Option Value} {news : List (Addr × Obj)} {Q : Value → Shared → Prop}
theorem srcAbc {t : Tok} {L : Addr} (hh : A.handled = none) (F : Fr h₀ L s.heap m) (N : News h₀ L s.heap news) (hL : env.locals = L)
    (ht : ∀ C D I g (i : Fin 5) u (m₁ : Str → Option Value) h tk oI oD E', Keep s.heap g → Fr g C h (fun y => if y = x then some (.str (nmS i) u) else m₁ y) → News g C h [(D, oD), (I, oI)] →
        wpAny (model prog w) A (forIn ifs true fun c r => if r = true then do let ok ← isTrue c (compEnvC scope cl C env) (eval c (compEnvC scope cl C env)); pure (ForInStep.yield ok) else pure (ForInStep.yield r))
          (fun ok s₃ => Hold (∃ h' tk', s₃ = { s with heap := h', toks := tk' } ∧ Keep h h' ∧ ok = pz i.val)) E' { s with heap := h, toks := tk })
    (he : ∀ C D I g (i : Fin 5) u (m₁ : Str → Option Value) h tk oI oD E', pz i.val = true → Keep s.heap g → Fr g C h (fun y => if y = x then some (.str (nmS i) u) else m₁ y) → News g C h [(D, oD), (I, oI)] →
        wpAny (model prog w) A (eval elt (compEnvC scope cl C env)) (fun y s₃ => Hold (∃ t h' tk', s₃ = { s with heap := h', toks := tk' } ∧ Keep h h' ∧ y = .int (f i.val) t)) E' { s with heap := h, toks := tk })
    (k : ∀ I h', s.heap.get? I = none → Keep s.heap h' → Q (.ref I) { s with heap := h' }) : wpAny (model prog w) A (pyIter (.str "abcde" t)) (fun it s₂ => Src prog w A env scope cl x ifs elt 5 pz f h₀ m news it s₂ ∧ Q it s₂) E s := by
  subst hL
  refine wpAny_pyIter_ascii (by decide +kernel) ⟨?_, k _ _ (sizeNone _) fun b o e => Heap.get?_push_of_some _ e⟩
  obtain ⟨F', N', ne⟩ := pushNews (o := { cls := .type "str_ascii_iterator", data := .fields #[.str "abcde" t, .int 0 0] }) F N rfl
  refine ⟨_, _, _, _, _, rfl, Walks.strAscii hh _ "abcde" t, by rw [sizeLine_eq]; decide, ⟨_, Heap.get?_push_size _ rfl, rfl, rfl⟩, ?_, ?_, F', N', ne, ?_, ?_⟩
  · intro b hb
    show b < (s.heap.push _).objs.size
    rw [Heap.size_push, List.mem_singleton.mp hb]
    exact Nat.lt_succ_self _
  · rintro i h ⟨o, ho, _⟩
    exact ⟨o, ho⟩
  · intro C D g i v m₁ h tk oI oD E' hi hP _ hk F'' N''
    obtain ⟨k, u, rfl, rfl⟩ := abcSign i v hP
    exact ht C D _ g k u m₁ h tk oI oD E' (fun b o e => hk b o (Nat.ne_of_lt (Heap.lt_size e)) (Heap.get?_push_of_some _ e)) F'' N''
  · intro C D g i v m₁ h tk oI oD E' hi hP hz _ hk F'' N''
    obtain ⟨k, u, rfl, rfl⟩ := abcSign i v hP
    exact he C D _ g k u m₁ h tk oI oD E' hz (fun b o e => hk b o (Nat.ne_of_lt (Heap.lt_size e)) (Heap.get?_push_of_some _ e)) F'' N''
end
theorem newsCat {h₀ h hs : Heap} {L : Addr} {m : Str → Option Value} {l sup : List (Addr × Obj)} (F : Fr h₀ L hs m) (N : News h₀ L h l) (hS : ∀ p ∈ sup, h.get? p.1 = some p.2 ∧ hs.get? p.1 = none) : News h₀ L h (l ++ sup) := fun q hq => by
  rcases List.mem_append.mp hq with hq | hq
  · exact N q hq
  · refine ⟨(hS q hq).1, fun e => ?_, freshOf F.keep (hS q hq).2⟩
    obtain ⟨oL, _, _, hL, _⟩ := F.ns
    have := (hS q hq).2
    rw [e, hL] at this
    cases this
theorem neSeq {h : Heap} {a c : Addr} {vs : Array Value} {ep : Nat} {oc : Obj} {v : Option Value} (ga : h.get? a = some (PySem.W.listOf vs ep)) (gc : h.get? c = some oc) (dc : oc.data = .cell v) : a ≠ c := fun e => by
  rw [e, gc] at ga
  cases ga
  cases dc
end Mine
end
section
open PySem PySem.W PySem.Calls PyProof.Rows
set_option maxRecDepth 100000
set_option maxHeartbeats 8000000
namespace Mine
section
variable {prog : Program} {w : World} {A : Around} {E : Value → Shared → Prop} {s : Shared}
theorem upTo4 {sl : Addr} {u : Tok} {Q : Int × Int × Nat → Shared → Prop} (hs : s.heap.IsSliceOf sl .none (.int 4 u) .none) (h : Q (0, 1, 4) s) :
    wpAny (model prog w) A (Builtin.Slice.sliceApplied (.ref sl) (pure ((5 : Nat) : Int))) Q E s := by
  obtain ⟨os, hos, hcs, hds⟩ := id hs
  unfold Builtin.Slice.sliceApplied Builtin.Slice.sliceFields
  refine wpAny_bind (wpAny_bind (wpAny_field hos hds (x := .none) rfl (wpAny_bind (wpAny_field hos hds (x := .int 4 u) rfl (wpAny_bind (wpAny_field hos hds (x := .none) rfl (wpAny_pure ?_)))))))
  refine wpAny_bind (slicePart_none ?_)
  show wpAny _ _ (if ((1 : Int) == 0) = true then _ else _) _ _ s
  rw [if_neg (by decide)]
  refine wpAny_bind (slicePart_none (wpAny_bind (slicePart_int (wpAny_bind (wpAny_pure ?_)))))
  show wpAny _ _ (pure ((0 : Int), (1 : Int), 4)) _ _ s
  exact wpAny_pure h
theorem four_of {t sl : Addr} {v0 v1 v2 v3 v4 : Value} {u : Tok} {Q : Value → Shared → Prop} (ht : IsTup s.heap t #[v0, v1, v2, v3, v4]) (hs : s.heap.IsSliceOf sl .none (.int 4 u) .none)
    (h : Q (.ref s.heap.objs.size) { s with heap := s.heap.push (tupObj [v0, v1, v2, v3]) }) : wpAny (model prog w) A (getItem (.ref t) (.ref sl)) Q E s := by
  obtain ⟨os, hos, hcs, hds⟩ := id hs
  have hTs : s.TypeIs (.ref sl) "slice" := ⟨os, hos, hcs⟩
  unfold getItem
  try with_reducible refine wpAny_holding ?_
  first | refine wpAny_bind (wpAny_pure ?_) | skip
  refine wpAny_bind (wpAny_sequenceKey ht.typeIs (by decide) ?_)
  refine wpAny_bind (wpAny_callSpecial?_slot (name := Str.ofString "__getitem__") ht.typeIs slot_tuple_getitem
    (wpAny_call_entry slot_tuple_getitem ht.typeIs entry_tuple_getitem ?_ (args_tuple_getitem _ _)))
  show wpAny _ _ (Builtin.Tuple.tupleItemsOf (.ref t) >>= _) _ _ s
  refine wpAny_bind (tupleItemsOf_ ht ?_)
  refine wpAny_bind (wpAny_typeOf hTs ?_)
  rw [if_pos (by decide)]
  refine wpAny_bind (upTo4 hs ?_)
  have hdrop : sizeOk (.seq ([v0, v1, v2, v3] : List Value).toArray) := by
    show ([v0, v1, v2, v3] : List Value).toArray.size ≤ sizeLine
    rw [sizeLine_eq]; exact Nat.le_of_ble_eq_true rfl
  show wpAny _ _ (if (((0 : Int) == 0 && (1 : Int) == 1 && (4 : Nat) == 5) = true) then _ else _) _ _ s
  rw [if_neg (by decide)]
  have e : ((List.range 4).filterMap fun (k : Nat) => (#[v0, v1, v2, v3, v4] : Array Value)[((0 : Int) + (k : Int) * 1).toNat]?).toArray = ([v0, v1, v2, v3] : List Value).toArray := rfl
  rw [e]
  first
    | exact wpAny_bind (m := Builtin.Tuple.tupleExact _) (wpAny_newObj_type (wpAny_pure ⟨_, rfl, wpAny_pure h⟩) hdrop)
    | exact wpAny_bind (m := Builtin.Tuple.tupleExact _) (wpAny_newObj_type (wpAny_bind (wpAny_pure (wpAny_pure ⟨_, rfl, wpAny_pure h⟩))) hdrop)
    | exact wpAny_bind (wpAny_bind (m := Builtin.Tuple.tupleExact _) (wpAny_newObj_type (wpAny_pure (wpAny_pure ⟨_, rfl, wpAny_pure h⟩)) hdrop))
    | exact wpAny_bind (wpAny_bind (m := Builtin.Tuple.tupleExact _) (wpAny_newObj_type (wpAny_pure ⟨_, rfl, wpAny_pure h⟩) hdrop))
/-- the first four of a tuple of five: two objects come in -/
theorem slice4 {value slice : Expr} {t : Addr} {v0 v1 v2 v3 v4 : Value} {u : Tok} {Q : Value → Shared → Prop} (ht : IsTup s.heap t #[v0, v1, v2, v3, v4])
    (h : ∀ D h', Keep s.heap h' → s.heap.get? D = none → h'.get? D = some (tupObj [v0, v1, v2, v3]) → Q (.ref D) { s with heap := h' })
    (hs : subscripted slice false (.ref t) (.ref s.heap.objs.size) = operate [.ref s.heap.objs.size, .ref t] (getItem (.ref t) (.ref s.heap.objs.size)) := by with_unfolding_all rfl)
    (hg : ∀ r, letTemporaryGo value (.ref t) r = pure () := by intro _; with_unfolding_all rfl) :
    wpAny (model prog w) A (subscriptTail value slice (.ref t) (.ref s.heap.objs.size)) Q E { s with heap := s.heap.push { cls := .type "slice", data := .fields #[.none, .int 4 u, .none] } } := by
  have ht' : IsTup (s.heap.push { cls := .type "slice", data := .fields #[.none, .int 4 u, .none] }) t #[v0, v1, v2, v3, v4] := ht.keeps fun _ _ e => Heap.get?_push_of_some _ e
  refine subscriptTail_ops (s := { s with heap := s.heap.push { cls := .type "slice", data := .fields #[.none, .int 4 u, .none] } }) ht'.typeIs slot_tuple_getitem.lookup
    (four_of ht' (Heap.IsSliceOf.new ..) ?_) hs hg
  refine h _ _ (fun b o e => Heap.get?_push_of_some _ (Heap.get?_push_of_some _ e)) ?_ (Heap.get?_push_size _ rfl)
  cases q : s.heap.get? (s.heap.push { cls := .type "slice", data := .fields #[.none, .int 4 u, .none] }).objs.size with
  | none => rfl
  | some o => have := Heap.lt_size q; rw [Heap.size_push] at this; exact absurd this (Nat.not_lt.mpr (Nat.le_succ _))
theorem addTup {t b : Addr} {vs ws : List Value} {Q : Value → Shared → Prop} (ht : s.heap.get? t = some (tupObj vs)) (hb : s.heap.get? b = some (tupObj ws)) (hv : vs ≠ []) (hw : ws ≠ []) (hsz : vs.length + ws.length ≤ sizeLine)
    (h : Q (.ref s.heap.objs.size) { s with heap := s.heap.push (tupObj (vs ++ ws)) }) : wpAny (model prog w) A (binaryOp .Add (.ref t) (.ref b)) Q E s := by
  refine concat_meets ⟨_, ht, rfl⟩ ⟨_, hb, rfl⟩ noFill_tuple_add seq_tuple_add PySem.F.slot_tuple_add PySem.F.entry_tuple_add (PySem.F.args_tuple_add_2 _ _)
    (tuple_addW2 t b vs.toArray ws.toArray _ _ _ _ _ _ (by simpa using hv) (by simpa using hw) (by rw [List.size_toArray, List.size_toArray]; exact hsz)) ⟨ht, hb, ?_⟩
  have e : vs.toArray ++ ws.toArray = (vs ++ ws).toArray := by simp
  rw [e]
  exact h
theorem itemsCall {env : Env} {K : Type} [DecidableEq K] {knd : KeyKind prog w K} {o : Expr} {apos pos : Pos} {d : Addr} {kvs : List (K × Value)} {Q : Value → Shared → Prop} (hdS : (d == sysModules) = false)
    (h : wpAny (model prog w) A (eval o env) (fun ov s₁ => ov = .ref d ∧ s₁.heap.DictOf knd d kvs ∧ Q (.ref s₁.heap.objs.size) { s₁ with heap := s₁.heap.push { cls := .type "dict_items", data := .fields #[.ref d] } }) E s)
    (hbase : attributeBase o "items" env (eval o env) = eval o env) (hline : (apos.endLine == pos.line) = true) :
    wpAny (model prog w) A (eval (.Call (.Attribute o "items" apos) [] [] pos) env) Q E s := by
  refine wpAny_Call_method (T := "dict") (id := "dict.items") hbase rfl hline F.plainAttrs_dict F.slot_dict_items F.type_dict_items (wpAny_mono h (fun ov s₁ h₁ => ?_) fun _ _ e => e)
  obtain ⟨rfl, hm, hQ⟩ := h₁
  refine ⟨hm.typeIs, hm.mapOf.noDict, ?_⟩
  show wpAny _ _ (callWith pos (.builtin "dict.items") [.ref d] [] []) Q E s₁
  exact method_meetsIn F.slot_dict_items F.entry_dict_items rfl (PySem.evalArgs_none ⟨rfl, hm.typeIs, F.args_dict_items_1 _, _, meets_dict_items knd d hdS, ⟨kvs, hm⟩, hQ⟩)
/-- the pairs of a dict, laid out in a list, are the table's rows -/
theorem pairsOf {kvs : List (Fin 5 × Value)} {tb : List (Fin 5 × Int)} {lo : Addr} {h : Heap} {as : List Addr} (hT : TabIs IntIs kvs tb) (hl : as.length = kvs.length) (G : KdxG (k5 prog w) kvs lo h as) :
    ∃ sup : List (Addr × Obj), (∀ p ∈ sup, h.get? p.1 = some p.2 ∧ lo < p.1) ∧ Paired (PairIs sup) (as.map Value.ref) tb := by
  have key : ∀ n, n ≤ as.length → ∃ sup : List (Addr × Obj), (∀ p ∈ sup, h.get? p.1 = some p.2 ∧ lo < p.1) ∧ Paired (PairIs sup) ((as.take n).map Value.ref) (tb.take n) := by
    intro n
    induction n with
    | zero => intro _; exact ⟨[], (fun _ h => nomatch h), by rw [List.take_zero, List.take_zero]; exact .nil⟩
    | succ n ih =>
      intro hn
      obtain ⟨sup, h1, h2⟩ := ih (by omega)
      have ha : as[n]? = some as[n] := List.getElem?_eq_getElem (by omega)
      generalize as[n] = a at ha
      obtain ⟨key, k, x, e1, e2, e3⟩ := G.pairs n a ha
      obtain ⟨y, e4, ⟨ty, rfl⟩⟩ := tabGet hT e1
      obtain ⟨tk, rfl⟩ := k5_shape e2
      refine ⟨(a, tupObj [.str (nmS k) tk, .int y ty]) :: sup, ?_, ?_⟩
      · intro p hp
        rcases List.mem_cons.mp hp with rfl | hp
        · exact ⟨e3, G.above a (List.mem_of_getElem? ha)⟩
        · exact h1 p hp
      · rw [List.take_add_one, ha, List.take_add_one, e4, List.map_append]
        exact Paired.snoc (Paired.mono (fun _ _ => PairIs.mono fun _ hp => .tail _ hp) h2) ⟨a, tk, ty, rfl, .head _⟩
  obtain ⟨sup, h1, h2⟩ := key as.length (Nat.le_refl _)
  rw [List.take_of_length_le (Nat.le_refl _), List.take_of_length_le (by rw [hl, hT.length]; exact Nat.le_refl _)] at h2
  exact ⟨sup, h1, h2⟩
theorem entDone {s₃ : Shared} {h h1 h2 : Heap} {view : Obj} {k : Fin 5} {e : Ent} {acc : Array Value} {cc : Nat} {as : List Addr} {kv : List (Fin 5 × Value)} {t0 t1 t2 t3 t4 : Tok} {tb : List (Fin 5 × Ent)} {i tk : Nat} (hp : tb[i]? = some (k, e)) (k1 : Keep h h1) (hv : view.isFreed = false) (k2 : ∀ b o, (h1.push view).get? b = some o → h2.get? b = some o)
    (g2 : h2.get? (h1.push view).objs.size = some { cls := .type "list", dict := none, data := .seq acc cc, slots := #[] }) (tc : TabIs IntIs kv e.tb) (hl : as.length = kv.length) (G : KdxG (k5 prog w) kv (h1.push view).objs.size h2 as) (hacc : acc.toList = as.map Value.ref)
    (es : s₃ = { s with heap := ((h2.push (tupObj [.ref (h1.push view).objs.size])).push (tupObj ([.int e.o t1, .int e.m t2, .int e.s t3, .int e.q t4] ++ [.ref (h1.push view).objs.size]))).push (tupObj [.str (nmS k) t0, .ref (h2.push (tupObj [.ref (h1.push view).objs.size])).objs.size]), toks := tk }) :
    Hold (∃ h' tk' sup, s₃ = { s with heap := h', toks := tk' } ∧ Keep h h' ∧ Sup sup h h' ∧ ∃ p, tb[i]? = some p ∧ RowIs sup (.ref ((h2.push (tupObj [.ref (h1.push view).objs.size])).push (tupObj ([.int e.o t1, .int e.m t2, .int e.s t3, .int e.q t4] ++ [.ref (h1.push view).objs.size]))).objs.size) p) := by
  obtain ⟨supT, hT1, hT2⟩ := pairsOf tc hl G
  have ka : Keep h (h1.push view) := fun b o q => Heap.get?_push_of_some _ (k1 b o q)
  have kb : Keep h h2 := Keep.trans ka k2
  have up1 : ∀ (H : Heap) (x : Obj) b o, H.get? b = some o → (H.push x).get? b = some o := fun H x b o q => Heap.get?_push_of_some _ q
  have kH3 : Keep h2 (h2.push (tupObj [.ref (h1.push view).objs.size])) := up1 _ _
  have kH4 := Keep.trans kH3 (up1 (h2.push (tupObj [.ref (h1.push view).objs.size])) (tupObj ([.int e.o t1, .int e.m t2, .int e.s t3, .int e.q t4] ++ [.ref (h1.push view).objs.size])))
  have q4 : ((h2.push (tupObj [.ref (h1.push view).objs.size])).push (tupObj ([.int e.o t1, .int e.m t2, .int e.s t3, .int e.q t4] ++ [.ref (h1.push view).objs.size]))).get? (h2.push (tupObj [.ref (h1.push view).objs.size])).objs.size = some (tupObj ([.int e.o t1, .int e.m t2, .int e.s t3, .int e.q t4] ++ [.ref (h1.push view).objs.size])) := Heap.get?_push_size _ rfl
  have n4 : h.get? (h2.push (tupObj [.ref (h1.push view).objs.size])).objs.size = none := freshOf (Keep.trans kb kH3) (sizeNone _)
  have n5 : h.get? ((h2.push (tupObj [.ref (h1.push view).objs.size])).push (tupObj ([.int e.o t1, .int e.m t2, .int e.s t3, .int e.q t4] ++ [.ref (h1.push view).objs.size]))).objs.size = none := freshOf (Keep.trans kb kH4) (sizeNone _)
  have nl : h.get? (h1.push view).objs.size = none := freshOf ka (sizeNone _)
  have hacc' : acc = (as.map Value.ref).toArray := by rw [← hacc]
  have nT : ∀ p ∈ supT, h.get? p.1 = none := fun p hp => by
    refine freshOf ka ?_
    cases q : (h1.push view).get? p.1 with
    | none => rfl
    | some o => exact absurd (Nat.lt_trans (hT1 p hp).2 (Heap.lt_size q)) (Nat.lt_irrefl _)
  generalize (h2.push (tupObj [.ref (h1.push view).objs.size])).push (tupObj ([.int e.o t1, .int e.m t2, .int e.s t3, .int e.q t4] ++ [.ref (h1.push view).objs.size])) = H4 at *
  generalize h2.push (tupObj [.ref (h1.push view).objs.size]) = H3 at *
  generalize (h1.push view).objs.size = lo at *
  subst hacc'
  refine ⟨_, _, (H4.objs.size, tupObj [.str (nmS k) t0, .ref H3.objs.size]) :: (H3.objs.size, tupObj ([.int e.o t1, .int e.m t2, .int e.s t3, .int e.q t4] ++ [.ref lo])) :: (lo, PySem.W.listOf (as.map Value.ref).toArray cc) :: supT, es, Keep.trans (Keep.trans kb kH4) (up1 _ _), ?_, _, hp, ?_⟩
  · intro p hp
    rcases List.mem_cons.mp hp with rfl | hp
    · exact ⟨Heap.get?_push_size _ rfl, n5⟩
    rcases List.mem_cons.mp hp with rfl | hp
    · exact ⟨up1 _ _ _ _ q4, n4⟩
    rcases List.mem_cons.mp hp with rfl | hp
    · exact ⟨up1 _ _ _ _ (kH4 _ _ g2), nl⟩
    · exact ⟨up1 _ _ _ _ (kH4 _ _ (hT1 p hp).1), nT p hp⟩
  · exact ⟨_, _, _, rfl, .head _, _, _, _, _, _, _, rfl, .tail _ (.head _), _, _, _, rfl, .tail _ (.tail _ (.head _)), Paired.mono (fun _ _ => PairIs.mono fun _ hp => .tail _ (.tail _ (.tail _ hp))) hT2⟩
end
end Mine
end
section
open PySem PySem.W PySem.Calls PyProof.Rows
set_option maxRecDepth 100000
set_option maxHeartbeats 8000000
namespace Mine
def pairData (p : Fin 5 × Int) : PyData := .tuple [.str (nmS p.1), .int p.2]
def entData (p : Fin 5 × Ent) : PyData := .tuple [.str (nmS p.1), .tuple [.int p.2.o, .int p.2.m, .int p.2.s, .int p.2.q, .list (p.2.tb.map pairData)]]
section
variable {h : Heap} {sup : List (Addr × Obj)}
theorem readsAll {β γ : Type} {R : Value → γ → Prop} {f : γ → PyData} (hR : ∀ v p, R v p → ∃ as, Reads h v (f p) as) : ∀ {vs : List Value} {tb : List γ}, Paired R vs tb → ∃ as, ReadsAll h vs (tb.map f) as
  | _, _, .nil => ⟨_, .nil⟩
  | _, _, .cons h1 t => by
    obtain ⟨as, e⟩ := hR _ _ h1
    obtain ⟨bs, e2⟩ := readsAll (β := β) hR t
    exact ⟨_, .cons e e2⟩
variable (hS : ∀ p ∈ sup, h.get? p.1 = some p.2)
include hS
theorem pairReads {v : Value} {p : Fin 5 × Int} (q : PairIs sup v p) : ∃ as, Reads h v (pairData p) as := by
  obtain ⟨a, t1, t2, rfl, m⟩ := q
  have e : ReadsAll h [.str (nmS p.1) t1, .int p.2 t2] [.str (nmS p.1), .int p.2] _ := .cons (.str _ _) (.cons (.int _ _) .nil)
  have g := hS _ m
  have := reads_tuple_at g rfl rfl e
  exact ⟨_, this⟩
theorem tblReads {v : Value} {tb : List (Fin 5 × Int)} (q : TblIs sup v tb) : ∃ as, Reads h v (.list (tb.map pairData)) as := by
  obtain ⟨a, xs, ep, rfl, m, q⟩ := q
  obtain ⟨as, e⟩ := readsAll (β := Unit) (f := pairData) (fun v p => pairReads hS) q
  have g := hS _ m
  have := reads_list_at g rfl rfl e
  exact ⟨_, this⟩
theorem rowReads {v : Value} {p : Fin 5 × Ent} (q : RowIs sup v p) : ∃ as, Reads h v (entData p) as := by
  obtain ⟨a, t, v2, rfl, m, ⟨b, t1, t2, t3, t4, v5, rfl, m2, q⟩⟩ := q
  obtain ⟨as, e⟩ := tblReads hS q
  have e2 : ReadsAll h [.int p.2.o t1, .int p.2.m t2, .int p.2.s t3, .int p.2.q t4, v5] [.int p.2.o, .int p.2.m, .int p.2.s, .int p.2.q, .list (p.2.tb.map pairData)] _ := .cons (.int _ _) (.cons (.int _ _) (.cons (.int _ _) (.cons (.int _ _) (.cons e .nil))))
  have g2 := hS _ m2
  have e3 := reads_tuple_at g2 rfl rfl e2
  have e4 : ReadsAll h [.str (nmS p.1) t, .ref b] [.str (nmS p.1), .tuple [.int p.2.o, .int p.2.m, .int p.2.s, .int p.2.q, .list (p.2.tb.map pairData)]] _ := .cons (.str _ _) (.cons e3 .nil)
  have g := hS _ m
  have := reads_tuple_at g rfl rfl e4
  exact ⟨_, this⟩
theorem rowsRead {l : Addr} {vs : List Value} {ep : Nat} {tb : List (Fin 5 × Ent)} (gl : h.get? l = some (PySem.W.listOf vs.toArray ep)) (q : Paired (RowIs sup) vs tb) : ∃ as, Reads h (.ref l) (.list (tb.map entData)) as := by
  obtain ⟨as, e⟩ := readsAll (β := Unit) (f := entData) (fun v p => rowReads hS) q
  have := reads_list_at gl rfl rfl e
  exact ⟨_, this⟩
end
theorem canAll {γ : Type} (f : γ → PyData) (hf : ∀ x, PyData.canLay0 (f x) = true) : ∀ l : List γ, PyData.canLayAll0 (l.map f) = true
  | [] => by simp only [List.map_nil, PyData.canLayAll0]
  | x :: l => by rw [List.map_cons, PyData.canLayAll0, hf x, canAll f hf l]; rfl
theorem depAll {γ : Type} (f : γ → PyData) (n : Nat) (hf : ∀ x, PyData.depth (f x) ≤ n) : ∀ l : List γ, PyData.depthAll (l.map f) ≤ n
  | [] => by simp only [List.map_nil, PyData.depthAll]; omega
  | x :: l => by
    have h1 := hf x
    have h2 := depAll f n hf l
    rw [List.map_cons, PyData.depthAll]
    omega
theorem pairCan (p : Fin 5 × Int) : PyData.canLay0 (pairData p) = true := by
  obtain ⟨k, x⟩ := p
  have : ∀ k : Fin 5, PyData.strOk (nmS k) = true := by decide +kernel
  simp only [pairData, PyData.canLay0, PyData.canLayAll0, this k, Bool.and_true]
theorem pairDep (p : Fin 5 × Int) : PyData.depth (pairData p) ≤ 1 := by
  simp only [pairData, PyData.depth, PyData.depthAll]; omega
theorem entCan (p : Fin 5 × Ent) : PyData.canLay0 (entData p) = true := by
  obtain ⟨k, x⟩ := p
  have : ∀ k : Fin 5, PyData.strOk (nmS k) = true := by decide +kernel
  have e := canAll pairData pairCan x.tb
  simp only [entData, PyData.canLay0, PyData.canLayAll0, this k, e, Bool.and_true]
theorem entDep (p : Fin 5 × Ent) : PyData.depth (entData p) ≤ 4 := by
  have e := depAll pairData 1 pairDep p.2.tb
  simp only [entData, PyData.depth, PyData.depthAll]; omega
theorem rowsCan (tb : List (Fin 5 × Ent)) : PyData.canLay0 (.list (tb.map entData)) = true := by
  rw [PyData.canLay0]; exact canAll entData entCan tb
theorem rowsShaped (tb : List (Fin 5 × Ent)) : PySem.SeqAt.shaped (.list (tb.map entData)) = true := by
  have h1 := depAll entData 4 entDep tb
  have h2 : PyData.depth (.list (tb.map entData)) ≤ 64 := by simp only [PyData.depth]; omega
  show (PyData.canLay0 (.list (tb.map entData)) && decide (PyData.depth (.list (tb.map entData)) ≤ 64)) = true
  rw [rowsCan, decide_eq_true h2]; rfl
theorem neRows {prog : Program} {w : World} {A : Around} {E : Value → Shared → Prop} {s : Shared} {Q : Value → Shared → Prop} {l l' : Addr} {vs us : List Value} {ep ep' : Nat} {tb : List (Fin 5 × Ent)} {sup sup' : List (Addr × Obj)}
    (gl : s.heap.get? l = some (PySem.W.listOf vs.toArray ep)) (q : Paired (RowIs sup) vs tb) (hS : ∀ p ∈ sup, s.heap.get? p.1 = some p.2)
    (gl' : s.heap.get? l' = some (PySem.W.listOf us.toArray ep')) (q' : Paired (RowIs sup') us tb) (hS' : ∀ p ∈ sup', s.heap.get? p.1 = some p.2) (hu : A.units + 64 < cLine) (h : Q (.bool false) s) :
    wpAny (model prog w) A (compareOp .NotEq (.ref l) (.ref l')) Q E s := by
  obtain ⟨as, ra⟩ := rowsRead hS gl q
  obtain ⟨bs, rb⟩ := rowsRead hS' gl' q'
  exact ne_dataH ra rb (rowsShaped tb) (rowsShaped tb) hu (by rw [PySem.SeqAt.eqv_refl _ (rowsCan tb)]; exact h)
end Mine
end
namespace Mine
theorem turn20 {M : PySem.Model} {A : PySem.Around} {E : PySem.Value → PySem.Shared → Prop} {s : PySem.Shared} {env : PySem.Env} {Q : PySem.Flow → PySem.Shared → Prop} (h : Q .next s) : PySem.wpAny M A (PySem.execs [] env) Q E s := by
  w_top off
  walk1
  exact h
end Mine
section
open PySem PySem.W PyProof.Rows
set_option maxRecDepth 100000
set_option maxHeartbeats 8000000
namespace Mine
theorem frBut2 {h₀ h h' : Heap} {L : Addr} {m : Str → Option Value} (F : Fr h₀ L h m) (k : ∀ b o, b ≠ 30 → b ≠ 37 → h.get? b = some o → h'.get? b = some o) (n30 : h₀.get? 30 = none) (n37 : h₀.get? 37 = none) (l30 : @Ne Nat L 30) (l37 : @Ne Nat L 37) : Fr h₀ L h' m := by
  obtain ⟨oL, es, ep, hoL, r⟩ := F.ns
  exact ⟨⟨oL, es, ep, k _ _ l30 l37 hoL, r⟩, fun b o e => k b o (fun q => by rw [q, n30] at e; cases e) (fun q => by rw [q, n37] at e; cases e) (F.keep b o e), F.above⟩
theorem newsBut2 {h₀ h h' : Heap} {L : Addr} {news : List (Addr × Obj)} (N : News h₀ L h news) (k : ∀ b o, b ≠ 30 → b ≠ 37 → h.get? b = some o → h'.get? b = some o) (q30 : AllNe 30 news.dropLast.dropLast) (q37 : AllNe 37 news.dropLast.dropLast) : News h₀ L h' news.dropLast.dropLast := fun q hq => by
  have e := N q ((List.dropLast_sublist _).subset ((List.dropLast_sublist _).subset hq))
  exact ⟨k _ _ (allNe_mem q30 q hq) (allNe_mem q37 q hq) e.1, e.2⟩
theorem frNe {h₀ h : Heap} {L b : Addr} {m : Str → Option Value} (F : Fr h₀ L h m) (n : h.get? b = none) : b ≠ L ∧ h₀.get? b = none := by
  refine ⟨fun e => ?_, freshOf F.keep n⟩
  obtain ⟨oL, _, _, hL, _⟩ := F.ns
  rw [e, hL] at n
  cases n
theorem newsCons {h₀ h : Heap} {L b : Addr} {o : Obj} {news : List (Addr × Obj)} (g : h.get? b = some o) (n : b ≠ L ∧ h₀.get? b = none) (N : News h₀ L h news) : News h₀ L h ((b, o) :: news) := fun q hq => by
  rcases List.mem_cons.mp hq with rfl | hq
  · exact ⟨g, n⟩
  · exact N q hq
theorem pickPre (c0 c1 c2 c3 c4 : Int) : ∀ i : Nat, i < 5 → pickNums [c0, c1, c2, c3, c4] none (some ((i : Int) + 1)) none = [c0, c1, c2, c3, c4].take (i + 1)
  | 0, _ => rfl
  | 1, _ => rfl
  | 2, _ => rfl
  | 3, _ => rfl
  | 4, _ => rfl
theorem preSum_b {c0 c1 c2 c3 c4 : Int} (h0 : 1 ≤ c0 ∧ c0 ≤ 7) (h1 : 0 ≤ c1 ∧ c1 ≤ 6) (h2 : 0 ≤ c2 ∧ c2 ≤ 6) (h3 : 0 ≤ c3 ∧ c3 ≤ 6) (h4 : 0 ≤ c4 ∧ c4 ≤ 6) (i : Nat) (hi : i < 5) :
    0 ≤ (pickNums [c0, c1, c2, c3, c4] none (some ((i : Int) + 1)) none).sum ∧ (pickNums [c0, c1, c2, c3, c4] none (some ((i : Int) + 1)) none).sum ≤ 31 := by
  rw [pickPre _ _ _ _ _ i hi]
  match i, hi with
  | 0, _ => simp only [List.take, List.sum_cons, List.sum_nil]; omega
  | 1, _ => simp only [List.take, List.sum_cons, List.sum_nil]; omega
  | 2, _ => simp only [List.take, List.sum_cons, List.sum_nil]; omega
  | 3, _ => simp only [List.take, List.sum_cons, List.sum_nil]; omega
  | 4, _ => simp only [List.take, List.sum_cons, List.sum_nil]; omega
theorem bndEq (c0 c1 c2 c3 c4 U : Int) : [c0 * U, c0 * U + c1 * U, c0 * U + c1 * U + c2 * U, c0 * U + c1 * U + c2 * U + c3 * U, c0 * U + c1 * U + c2 * U + c3 * U + c4 * U] =
    List.map (fun i : Nat => U * (pickNums [c0, c1, c2, c3, c4] none (some ((i : Int) + 1)) none).sum) (List.filter (fun _ => true) (List.range 5)) := by
  rw [filterTrue]
  have e : ∀ x, U * x = x * U := fun x => Int.mul_comm U x
  have e2 : List.map (fun i : Nat => U * (pickNums [c0, c1, c2, c3, c4] none (some ((i : Int) + 1)) none).sum) (List.range 5) = [U * [c0].sum, U * [c0, c1].sum, U * [c0, c1, c2].sum, U * [c0, c1, c2, c3].sum, U * [c0, c1, c2, c3, c4].sum] := rfl
  rw [e2]
  simp only [List.sum_cons, List.sum_nil, Int.add_zero, e, Int.add_mul, Int.add_assoc]
theorem widths (n : Nat) : 20 ≤ [(24 : Int), 4011, 4012].getD ((n : Int) % 3).toNat 0 ∧ [(24 : Int), 4011, 4012].getD ((n : Int) % 3).toNat 0 < 7000 := by
  have h : (n : Int) % 3 = 0 ∨ (n : Int) % 3 = 1 ∨ (n : Int) % 3 = 2 := by omega
  rcases h with h | h | h <;> rw [h] <;> decide
theorem pairedLast {α β : Type} {R : α → β → Prop} {a : α} : ∀ {l : List α} {ys : List β}, Paired R (l ++ [a]) ys → ∃ ys' y, ys = ys' ++ [y] ∧ Paired R l ys' ∧ R a y
  | [], _, .cons h .nil => ⟨[], _, rfl, .nil, h⟩
  | _ :: l, _, .cons h t => by
    obtain ⟨ys', y, rfl, h1, h2⟩ := pairedLast (l := l) t
    exact ⟨_ :: ys', y, rfl, .cons h h1, h2⟩
theorem pairedAt {β γ : Type} {R : β → γ → Prop} {tb : List γ} : ∀ (n : Nat) (ys : List β), n ≤ tb.length → Paired (fun i y => ∃ p, tb[i]? = some p ∧ R y p) (List.range n) ys → Paired R ys (tb.take n)
  | 0, _, _, .nil => by rw [List.take_zero]; exact .nil
  | n + 1, ys, hn, h => by
    rw [List.range_succ] at h
    obtain ⟨ys', y, rfl, h1, ⟨p, e, q⟩⟩ := pairedLast h
    rw [List.take_add_one, e]
    exact Paired.snoc (pairedAt n ys' (by omega) h1) q
theorem entLen (r : List (Fin 5)) : ∀ p ∈ profOf (evsTo r r.length), p.2.tb.length ≤ r.length := by
  intro p hp
  rw [← told_eq] at hp
  obtain ⟨i, _, rfl⟩ := List.mem_map.mp hp
  show (tableOf (callersOf r i)).length ≤ r.length
  unfold tableOf
  rw [List.length_map]
  refine Nat.le_trans (firsts_len _) ?_
  unfold callersOf mineOf
  rw [List.length_map]
  exact Nat.le_trans (List.length_filter_le _ _) (Nat.le_of_eq List.length_range)
theorem intDone {s : Shared} {h : Heap} {tk : Nat} {x y : Int} {t0 : Tok} (e : x = y) : Hold (∃ t h' tk', ({ s with heap := h, toks := tk } : Shared) = { s with heap := h', toks := tk' } ∧ Keep h h' ∧ Value.int x t0 = .int y t) :=
  ⟨t0, h, tk, rfl, Keep.rfl, by rw [e]⟩
theorem ticksAt (r : List (Fin 5)) : ∀ (i : Nat) (hi : i < 5), [((mineOf r 0).length : Int), ((mineOf r 1).length : Int), ((mineOf r 2).length : Int), ((mineOf r 3).length : Int), ((mineOf r 4).length : Int)].getD i 0 = ((mineOf r ⟨i, hi⟩).length : Int)
  | 0, _ => rfl
  | 1, _ => rfl
  | 2, _ => rfl
  | 3, _ => rfl
  | 4, _ => rfl
theorem newsErase {h₀ h : Heap} {L : Addr} {l : List (Addr × Obj)} (N : News h₀ L h l) (i : Nat) : News h₀ L h (l.eraseIdx i) := fun q hq => N q (List.mem_of_mem_eraseIdx hq)
theorem timeNe {h : Heap} {c : Addr} {o : Obj} (e : h.get? c = some o) {sup : List (Addr × Obj)} (hS : ∀ p ∈ sup, h.get? p.1 = none) : AllNe c sup := allNe_of fun p hp q => by
  have := hS p hp
  rw [q, e] at this
  cases this
local macro_rules
  | `(tactic| k_lt $h:ident) => `(tactic| replace $h := allLt_of $h)
  | `(tactic| walk_at "eval Subscript") => `(tactic| ((with_reducible show wpAny _ _ (eval _ (compEnvC _ _ _ _)) _ _ _); kfm_turns))
  | `(tactic| walk_at "eval Name") => `(tactic| ((with_reducible show wpAny _ _ (eval _ (compEnvC _ _ _ _)) _ _ _); kfm_turns))
  | `(tactic| walk_at "call ref") => `(tactic| kfm_turns)
  | `(tactic| walk_at "call builtin:sum") => `(tactic| kfm_turns)
  | `(tactic| walk_at "pyIter ref") => `(tactic| kfm_turns)
  | `(tactic| walk_at "eval ListComp") => `(tactic| kfm_turns)
  | `(tactic| walk_at "exec Assign cons ListComp") => `(tactic| kfm_turns)
  | `(tactic| walk_at "compareOp NotEq ref ref") => `(tactic| kfm_turns)
  | `(tactic| walk_at "compareOp Eq ref ref") => `(tactic| kfm_turns)
  | `(tactic| walk_at "binaryOp FloorDiv int int") => `(tactic| kfm_turns)
  | `(tactic| walk_at "binaryOp Mod int int") => `(tactic| kfm_turns)
  | `(tactic| walk_at "binaryOp Sub int int") => `(tactic| kfm_turns)
  | `(tactic| walk_at "eval Call") => `(tactic| ((with_reducible show wpAny _ _ (eval _ (compEnvC _ _ _ _)) _ _ _); kfm_turns))
  | `(tactic| walk_at "eval Call Attribute") => `(tactic| ((with_reducible show wpAny _ _ (eval _ (compEnvC _ _ _ _)) _ _ _); kfm_turns))
  | `(tactic| walk_at "call builtin:abs") => `(tactic| kfm_turns)
  | `(tactic| walk_at "pyIter str") => `(tactic| kfm_turns)
  | `(tactic| walk_at "call type:list") => `(tactic| kfm_turns)
theorem law_holds : PySem.Challenge.rw_pe0206_01.Holds := by
  w_top off
  refine Mine.hd (by rfl) (by rfl) (by rfl) ?_
  w_strict k_go0
  rename Fr _ _ _ _ => F0
  rename News _ _ _ _ => N0
  rename IntsAre _ _ => hI
  rename Frag.In _ (ghostOf _ _) => X
  rename Top _ _ _ _ _ (ghostOf _ _) => T
  rename Heap.IsList (ghostOf _ _) _ _ => hl
  rename Not (_ < _) => hlen
  rename Below callerA _ _ _ => K0
  rename Shared => s₁
  rename List Int => ns
  generalize hg0 : ghostOf s₁.heap [(41, 37), (34, 30)] = g0 at *
  clear hg0
  have C30 : CodeHd g0 34 30 := by assumption
  have C37 : CodeHd g0 41 37 := by assumption
  have hlen' := Int.not_lt.mp hlen
  refine retQ fun Q' E' hQ => ?_
  k_steps
  show wpAny _ _ _ _ _ _
  rename Fr _ _ _ _ => F1
  rename News _ _ _ _ => N1
  refine c_counts0 (s := ⟨_, _, _, _, _⟩) X T F1.keep (by decide) (hl.at fun o e => F1.keep _ _ e) hI (by omega) ?_
  intro lc u0 u1 u2 u3 u4 c0 c1 c2 c3 c4 cep h2 tk2 k2 n2 g2 hc0 hc1 hc2 hc3 hc4
  have F2 := frKeep F1 k2
  have N2 := newsAdd F1 N1 k2 n2 g2
  have l2 := newsNe n2 N1
  clear F1 N1
  dsimp only
  have hIc : IntsAre [.int c0 u0, .int c1 u1, .int c2 u2, .int c3 u3, .int c4 u4] [c0, c1, c2, c3, c4] := .cons _ _ (.cons _ _ (.cons _ _ (.cons _ _ (.cons _ _ .nil))))
  have hgr : [c0, c1, c2, c3, c4].sum = c0 + c1 + c2 + c3 + c4 := by simp only [List.sum_cons, List.sum_nil]; omega
  k_steps
  show wpAny _ _ _ _ _ _
  rename Fr _ _ _ _ => F3
  rename News _ _ _ _ => N3
  refine sumK rfl (isListNews N3 (by k_mem)) hIc fun h4 tk4 t4 k4 => ?_
  rw [hgr]
  have hgb : 1 ≤ c0 + c1 + c2 + c3 + c4 ∧ c0 + c1 + c2 + c3 + c4 ≤ 31 := by omega
  generalize hgrand : c0 + c1 + c2 + c3 + c4 = grand at *
  have F4 := frKeep F3 k4
  have N4 := newsKeep N3 k4
  clear F3 N3
  dsimp only
  k_steps
  show wpAny _ _ _ _ _ _
  refine modPos (by decide) ?_
  k_steps
  show wpAny _ _ _ _ _ _
  have hWb := widths ns.length
  generalize [(24 : Int), 4011, 4012].getD ((ns.length : Int) % 3).toNat 0 = W at *
  refine sub_int ?_
  k_steps
  show wpAny _ _ _ _ _ _
  rename Fr _ _ _ _ => F5
  rename News _ _ _ _ => N5
  rename Obj.data _ = Data.cell (some (Value.int (2 ^ _) _)) => dU
  have n30 : g0.get? 30 = none := N5.fresh (show (30, _) ∈ _ by k_mem)
  have n37 : g0.get? 37 = none := N5.fresh (show (37, _) ∈ _ by k_mem)
  refine c_bounds1 (s := ⟨_, _, _, _, _⟩) X T F5.keep C30 C37 (N5.get (by k_mem)) (N5.get (by k_mem)) n30 n37 (by decide) (by decide) hWb.1 hWb.2 (isListNews N5 (by k_mem)) hIc hc0 (by omega) (by omega) (by omega) (by omega) ?_
  intro lb vb bep h6 tk6 k6 n6 g6 hIb ⟨ps37, g37⟩ ⟨ps30, g30⟩
  have zz : AllLt s₁.heap.objs.size [(37, tabObj #[]), (30, tabObj #[])] := by assumption
  have z37 : @LT.lt Nat _ 37 s₁.heap.objs.size := zz.1
  have z30 : @LT.lt Nat _ 30 s₁.heap.objs.size := zz.2.1
  have m6 := newsNe n6 N5
  have q6 := frNe F5 n6
  replace F5 := frBut2 F5 k6 n30 n37 (Nat.ne_of_gt zz.2.1) (Nat.ne_of_gt zz.1)
  have N6 := newsCons g6 q6 (newsCons g37 ⟨Nat.ne_of_lt z37, n37⟩ (newsCons g30 ⟨Nat.ne_of_lt z30, n30⟩ (newsBut2 N5 k6 (by simp only [List.dropLast]; (repeat' refine And.intro ?_ ?_) <;> first | exact trivial | k_ne) (by simp only [List.dropLast]; (repeat' refine And.intro ?_ ?_) <;> first | exact trivial | k_ne))))
  simp only [List.dropLast] at N6
  clear N5 k6
  have hU0 := p2pos (W - 10).toNat
  generalize hU : (2 : Int) ^ (W - 10).toNat = U at *
  dsimp only
  k_steps
  show wpAny _ _ _ _ _ _
  rename Fr _ _ _ _ => F7
  rename News _ _ _ _ => N7
  rename Obj.data _ = Data.cell (some (Value.ref lc)) => dC
  rename Obj.data _ = Data.cell (some (Value.int U _)) => dU
  rename Obj.data _ = Data.cell (some (Value.int grand _)) => dG
  refine compI 5 (fun _ => true) (fun i => U * (pickNums [c0, c1, c2, c3, c4] none (some ((i : Int) + 1)) none).sum) F7 N7 rfl (by decide) rfl (by decide) rfl ?_ (by intro _; rfl)
  k_steps
  show wpAny _ _ _ _ _ _
  rename News _ _ _ _ => N8
  rename Fr _ _ _ _ => F8
  refine srcRange rfl F8 N8 (by assumption) (by decide) (by rfl) ?_ ?_ ?_
  · intro C D J gg i v m₁ h tk oI oD E' hi hP hk F N
    exact wpAny_tests_nil ⟨_, _, rfl, Keep.rfl, rfl⟩
  · rintro C D J gg i v m₁ h tk oI oD E' hi ⟨ti, rfl⟩ _ hk F N
    have hcU := hk _ _ (N8.get (show (s₁.heap.objs.size + 1 + 1 + 1, _) ∈ _ by k_mem))
    have hcC := hk _ _ (N8.get (show (s₁.heap.objs.size + 1, _) ∈ _ by k_mem))
    have hlc := hk _ _ (N8.get (show (lc, _) ∈ _ by k_mem))
    have Xg := X.keeps (Keep.trans F8.keep hk)
    have Tg := T.keeps (Keep.trans F8.keep hk)
    refine wpAny_BinOp (nameAC F rfl (by rfl) (by rfl) hcU dU ?_)
    refine wpAny_Call_NameR (nameAB F Xg Tg rfl (by rfl) (by rfl) (by rfl) (by k_is) (by boot_fact) (by decide) ?_)
    k_steps
    show wpAny _ _ _ _ _ _
    refine Subscript_ (nameAC F rfl (by rfl) (by rfl) hcC dC ?_)
    refine wpAny_Slice (wpAny_evalPart_none (wpAny_evalPart_some (wpAny_BinOp (nameAL F rfl (by rfl) (by rfl) (wpAny_Constant_int (add_int (wpAny_evalPart_none ?_)))))))
    refine slice3K (s := ⟨_, _, _, _, _⟩) (items := [.int c0 u0, .int c1 u1, .int c2 u2, .int c3 u3, .int c4 u4].toArray) ⟨_, F.keep _ _ hlc, rfl, _, rfl⟩ .none (.int _ _) .none (by decide) ?_
    intro D4 h4 k4 n4 g4
    have hpk := hIc.pick none (some ((i : Int) + 1)) none
    have hb := preSum_b hc0 hc1 hc2 hc3 hc4 i hi
    k_steps
    show wpAny _ _ _ _ _ _
    refine sumK rfl (vs := (slicePick [.int c0 u0, .int c1 u1, .int c2 u2, .int c3 u3, .int c4 u4].toArray none (some ((i : Int) + 1)) none).toList) ⟨_, g4, rfl, _, rfl⟩ hpk fun h5 tk5 t5 k5 => ?_
    refine mul_int ?_ (IntMulOk.of_right (intBits_le_64 (by omega) (by omega)))
    exact ⟨_, _, _, rfl, Keep.trans k4 k5, rfl⟩
  intro J9 h9 n9 k9 D10 vb10 ep10 h10 tk10 F10 N10 l10 hI10 _
  rw [← bndEq] at hI10
  clear F8 N8
  replace F10 : Fr g0 s₁.heap.objs.size h10 _ := F10
  replace N10 : News g0 s₁.heap.objs.size h10 _ := N10
  k_steps
  show wpAny _ _ _ _ _ _
  refine ne_intsK (isListNews N10 (by k_mem)) hIb (isListNews N10 (by k_mem)) hI10 (show 71 < cLine by decide) ?_
  rw [decide_eq_true rfl]
  clear hI10
  k_steps
  show wpAny _ _ _ _ _ _
  rename Fr _ _ _ _ => F11
  rename News _ _ _ _ => N11
  refine c_refL (s := ⟨_, _, _, _, _⟩) X T (by decide) F11 N11 (groundX (s := ⟨_, _, _, _, _⟩) (R := fun _ _ => True) K0 F11 N11 rfl rfl rfl).2.1 fun h12 tk12 F12 N12 => ?_
  clear F11 N11
  dsimp only
  k_steps
  show wpAny _ _ _ _ _ _
  rename Fr _ _ _ _ => F13
  rename News _ _ _ _ => N13
  refine c_refR (s := ⟨_, _, _, _, _⟩) X T (by decide) F13 N13 (groundX (s := ⟨_, _, _, _, _⟩) (R := fun _ _ => True) K0 F13 N13 rfl rfl rfl).2.1 fun h14 tk14 F14 N14 => ?_
  clear F13 N13
  dsimp only
  k_steps
  show wpAny _ _ _ _ _ _
  have hk3 : (ns.take 63).length ≤ 63 := by rw [List.length_take]; omega
  refine compI (ns.take 63).length (fun _ => true) (fun j => (ns.take 63).getD j 0 % 1000000) F14 N14 rfl (by decide) rfl (by decide) rfl ?_ (by intro _; rfl)
  k_steps
  show wpAny _ _ _ _ _ _
  rename Fr _ _ _ _ => F15
  rename News _ _ _ _ => N15
  rename IntsAre _ (List.take _ _) => hIs
  have hsl := hIs.length
  refine srcList rfl F15 (fun p hp => N15 p (.tail _ hp)) (isListNews N15 (.head _)) (by rw [List.size_toArray, hsl]) (by rw [sizeLine_eq]; exact Nat.le_trans hk3 (by decide)) (by rfl) ?_ ?_ ?_
  · intro C D J gg i v m₁ h tk oI oD E' hi hP hk F N
    exact wpAny_tests_nil ⟨_, _, rfl, Keep.rfl, rfl⟩
  · intro C5 D5 J5 g5 j v m5 h5 tk5 oI5 oD5 E5 hj hP5 _ hk5 F5 N5
    obtain ⟨t5, e5⟩ := hIs.get j _ (List.getElem?_eq_getElem hj)
    rw [List.getElem?_toArray, e5, show (ns.take 63)[j] = (ns.take 63).getD j 0 by rw [List.getD_eq_getElem?_getD, List.getElem?_eq_getElem hj]; rfl] at hP5
    obtain rfl := Option.some.inj hP5
    refine wpAny_BinOp (nameAL F5 rfl (by rfl) (by rfl) (wpAny_Constant_int (modPos (by decide) ?_)))
    exact ⟨_, _, _, rfl, Keep.rfl, rfl⟩
  intro J16 h16 n16 k16 D17 vs17 ep17 h17 tk17 F17 N17 l17 hI17 _
  replace F17 : Fr g0 s₁.heap.objs.size h17 _ := F17
  replace N17 : News g0 s₁.heap.objs.size h17 _ := N17
  clear F15 N15
  dsimp only
  k_steps
  show wpAny _ _ _ _ _ _
  rename Fr _ _ _ _ => F18
  rename News _ _ _ _ => N18
  refine sumK rfl (isListNews N18 (by k_mem)) hI17 fun h19 tk19 t19 k19 => ?_
  have F19 := frKeep F18 k19
  have N19 := newsKeep N18 k19
  clear F18 N18 hI17
  generalize (List.map (fun j => (ns.take 63).getD j 0 % 1000000) ((List.range (ns.take 63).length).filter fun _ => true)).sum = S
  dsimp only
  k_steps
  show wpAny _ _ _ _ _ _
  refine modPos (by decide) ?_
  have hmb : 4 ≤ 4 + (2 + S) % 5 ∧ 4 + (2 + S) % 5 ≤ 8 := by omega
  k_steps
  show wpAny _ _ _ _ _ _
  refine fdivSmall (by decide) (by decide) ?_
  k_steps
  show wpAny _ _ _ _ _ _
  refine modPos (by omega) ?_
  have hsb : 0 ≤ (2 + S) / 5 % grand ∧ (2 + S) / 5 % grand < grand := ⟨Int.emod_nonneg _ (by omega), Int.emod_lt_of_pos _ (by omega)⟩
  generalize (2 + S) / 5 % grand = start at *
  generalize 4 + (2 + S) % 5 = many at *
  k_steps
  w_top off
  show wpAny _ _ _ _ _ _
  rename Fr _ _ _ _ => F20
  rename News _ _ _ _ => N20
  obtain ⟨mn, rfl⟩ := Int.eq_ofNat_of_zero_le (show 0 ≤ many by omega)
  have hmn : 4 ≤ mn ∧ mn ≤ 8 := by omega
  have z0 : 0 ≤ c0 := Int.le_trans (by decide) hc0.1
  have z1 := hc1.1
  have z2 := hc2.1
  have z3 := hc3.1
  have z4 := hc4.1
  have zg := hgb.1
  refine c_row0 (s := ⟨_, _, _, _, _⟩) (X.keeps F20.keep) (T.keeps F20.keep) (by decide) (isListNews N20 (by k_mem)) hIc rfl (by simp only [List.mem_cons, List.not_mem_nil, or_false]; rintro c (rfl | rfl | rfl | rfl | rfl) <;> omega) hmb hsb.1 (by first | (with_reducible assumption) | omega) ?_
  intro lr vr rep h21 tk21 k21 n21 g21 hIr
  rw [rowEq (by first | (with_reducible assumption) | omega) (by first | (with_reducible assumption) | omega) (by first | (with_reducible assumption) | omega) (by first | (with_reducible assumption) | omega) (by first | (with_reducible assumption) | omega) hgrand hsb (by first | (with_reducible assumption) | omega)] at hIr
  have F21 := frKeep F20 k21
  have N21 := newsAdd F20 N20 k21 n21 g21
  have l21 := newsNe n21 N20
  clear F20 N20
  dsimp only
  k_steps
  show wpAny _ _ _ _ _ _
  rename Fr _ _ _ _ => F22
  rename News _ _ _ _ => N22
  refine c_owners0 (s := ⟨_, _, _, _, _⟩) (ow := rowN c0 c1 c2 c3 start grand mn) (X.keeps F22.keep) (T.keeps F22.keep) (by decide) (isListNews N22 (by k_mem)) hIb hmn hsb (by first | (with_reducible assumption) | omega) (fun k hk => rowStands hU0 (by first | (with_reducible assumption) | omega) (by first | (with_reducible assumption) | omega) (by first | (with_reducible assumption) | omega) (by first | (with_reducible assumption) | omega) (by first | (with_reducible assumption) | omega) hgrand hsb k hk) ?_
  intro lo vo oep h23 tk23 k23 n23 g23 hIo
  rw [← nums_row] at hIo
  have F23 := frKeep F22 k23
  have N23 := newsAdd F22 N22 k23 n23 g23
  have l23 := newsNe n23 N22
  clear F22 N22
  dsimp only
  k_steps
  show wpAny _ _ _ _ _ _
  refine ne_intsK (isListNews N23 (by k_mem)) hIo (isListNews N23 (by k_mem)) hIr (show 71 < cLine by decide) ?_
  rw [decide_eq_true rfl]
  k_steps
  show wpAny _ _ _ _ _ _
  rename Fr _ _ _ _ => F24
  rename News _ _ _ _ => N24
  replace N24 := newsErase (newsErase (newsErase (newsErase (newsErase N24 0) 1) 1) 1) 3
  simp only [List.eraseIdx] at N24
  have hfair := fun i => fair (c0 := c0) (c1 := c1) (c2 := c2) (c3 := c3) (c4 := c4) (mn := mn) (by first | (with_reducible assumption) | omega) (by first | (with_reducible assumption) | omega) (by first | (with_reducible assumption) | omega) (by first | (with_reducible assumption) | omega) (by first | (with_reducible assumption) | omega) hgrand hsb i
  have hrl := row_len c0 c1 c2 c3 start grand mn
  generalize rowF c0 c1 c2 c3 start grand mn = r at *
  refine c_profile0 (s := ⟨_, _, _, _, _⟩) (X.keeps F24.keep) (T.keeps F24.keep) (by decide) (isListNews N24 (by k_mem)) hIr (by first | (with_reducible assumption) | omega) ?_
  intro dP oP kvP supP h25 tk25 k25 n25 g25 DP TP zP hSP lSP
  have F25 := frKeep F24 k25
  have m25 := newsNe n25 N24
  have N25 := newsCat F24 (newsAdd F24 N24 k25 n25 g25) hSP
  have cP := N24.get (show (s₁.heap.objs.size + 1 + 1 + 1 + 1 + 1, _) ∈ _ by k_mem)
  have cT := N24.get (show (s₁.heap.objs.size + 1 + 1 + 1 + 1 + 1 + 1, _) ∈ _ by k_mem)
  simp only [List.cons_append, List.nil_append] at N25
  clear N24
  dsimp only
  refine wpAny_storeName_cell rfl rfl rfl ⟨_, N25.get (show (s₁.heap.objs.size + 1 + 1 + 1 + 1 + 1, _) ∈ _ by k_mem), by assumption⟩ fun h26 hc26 hs26 => ?_
  obtain ⟨oP26, gP26, dP26⟩ := hc26
  have c50 : g0.get? (s₁.heap.objs.size + 1 + 1 + 1 + 1 + 1) = none := N25.fresh (show (s₁.heap.objs.size + 1 + 1 + 1 + 1 + 1, _) ∈ _ by k_mem)
  have c5L : @Ne Nat (s₁.heap.objs.size + 1 + 1 + 1 + 1 + 1) s₁.heap.objs.size := by omega
  have F26 := F25.change hs26 c5L c50
  have sP5 := timeNe cP (fun p hp => (hSP p hp).2)
  have sT6 := timeNe cT (fun p hp => (hSP p hp).2)
  have N26 := News.setAt (own := [(dP, _), (lr, _), (37, _), (30, _), (lc, _), (s₁.heap.objs.size + 1 + 1 + 1 + 1 + 1 + 1, _)]) N25 (by
    intro q hq
    rcases List.mem_cons.mp hq with rfl | hq
    · exact fun e => by rw [show dP = s₁.heap.objs.size + 1 + 1 + 1 + 1 + 1 from e] at n25; exact absurd (n25.symm.trans cP) (by simp)
    rcases List.mem_cons.mp hq with rfl | hq
    · exact neSeq (N25.get (show (lr, _) ∈ _ by k_mem)) (N25.get (show (s₁.heap.objs.size + 1 + 1 + 1 + 1 + 1, _) ∈ _ by k_mem)) (by assumption)
    rcases List.mem_cons.mp hq with rfl | hq
    · show @Ne Nat 37 (s₁.heap.objs.size + 1 + 1 + 1 + 1 + 1); omega
    rcases List.mem_cons.mp hq with rfl | hq
    · show @Ne Nat 30 (s₁.heap.objs.size + 1 + 1 + 1 + 1 + 1); omega
    rcases List.mem_cons.mp hq with rfl | hq
    · exact neSeq (N25.get (show (lc, _) ∈ _ by k_mem)) (N25.get (show (s₁.heap.objs.size + 1 + 1 + 1 + 1 + 1, _) ∈ _ by k_mem)) (by assumption)
    · rw [List.mem_singleton.mp hq]; show @Ne Nat _ _; omega) (by
    intro q hq
    rcases List.mem_cons.mp hq with rfl | hq
    · show @Ne Nat (s₁.heap.objs.size + 1 + 1 + 1 + 1) (s₁.heap.objs.size + 1 + 1 + 1 + 1 + 1); omega
    rcases List.mem_cons.mp hq with rfl | hq
    · show @Ne Nat (s₁.heap.objs.size + 1 + 1 + 1) (s₁.heap.objs.size + 1 + 1 + 1 + 1 + 1); omega
    rcases List.mem_cons.mp hq with rfl | hq
    · show @Ne Nat (s₁.heap.objs.size + 1 + 1) (s₁.heap.objs.size + 1 + 1 + 1 + 1 + 1); omega
    rcases List.mem_cons.mp hq with rfl | hq
    · show @Ne Nat (s₁.heap.objs.size + 1) (s₁.heap.objs.size + 1 + 1 + 1 + 1 + 1); omega
    · exact allNe_mem sP5 q hq) hs26 gP26
  simp only [List.cons_append, List.nil_append] at N26
  clear F25 N25 hs26
  dsimp only
  k_steps
  show wpAny _ _ _ _ _ _
  rename Fr _ _ _ _ => F27
  rename News _ _ _ _ => N27
  obtain ⟨esP, epP, rP⟩ := id DP
  have supN := fun p (hp : p ∈ supP) => N27 p (by repeat (first | exact hp | refine List.Mem.tail _ ?_))
  have hkl : kvP.length = (profOf (evsTo r r.length)).length := TP.length
  have hkl8 : kvP.length ≤ 8 := by
    rw [hkl]
    unfold profOf
    refine Nat.le_trans (tab_len _ _ _) ?_
    rw [evsTo_len]; omega
  refine compItems (knd := k5 _ _) (s := ⟨_, _, _, _, _⟩) (fun _ => true) (fun i y sup => ∃ p, (profOf (evsTo r r.length))[i]? = some p ∧ RowIs sup y p) (fun i y sup sup' ⟨p, e, q⟩ hs => ⟨p, e, q.mono hs⟩) rfl zP ⟨oP, esP, N27.get (show (dP, _) ∈ _ by k_mem), rP⟩ (by rw [sizeLine_eq]; omega) F27 N27 rfl rfl
    (fun Q' q => wpAny_Name (wpAny_loadName_cell (by rfl) (by rfl) (by rfl) ⟨_, N27.get (show (s₁.heap.objs.size + 1 + 1 + 1 + 1 + 1, _) ∈ _ by k_mem), dP26⟩ q) (by decide)) rfl (by decide) rfl (by decide) rfl rfl ?_ ?_ ?_
  · intro C D I gg i k v key m₁ h tk oI oD E' hv hkey hk F N
    exact wpAny_tests_nil ⟨_, _, rfl, Keep.rfl, rfl⟩
  · intro C D I gg i k v key m₁ h tk oI oD E' hv _ hkey hk F N
    obtain ⟨e, he1, ⟨a, c, oc, kv, t1, t2, t3, t4, rfl, ma, mc, dc, tc, zc⟩⟩ := tabGet TP hv
    obtain ⟨tn, rfl⟩ := k5_shape hkey
    have ga := F.keep _ _ (hk _ _ (supN _ ma).1)
    obtain ⟨es, ep, rr⟩ := id dc
    have gc : h.DictAt (k5 _ _) c kv ep := ⟨oc, es, F.keep _ _ (hk _ _ (supN _ mc).1), rr⟩
    have Xg := X.keeps (Keep.trans F27.keep hk)
    have Tg := T.keeps (Keep.trans F27.keep hk)
    refine Tuple_ (spliced_more (nameAL F rfl (by rfl) (by rfl) (spliced_more (wpAny_BinOp ?_))))
    refine Subscript_ (nameAL F rfl (by rfl) (by rfl) (wpAny_Slice (wpAny_evalPart_none (wpAny_evalPart_some (wpAny_Constant_int (wpAny_evalPart_none ?_))))))
    refine slice4 (s := ⟨_, _, _, _, _⟩) ⟨_, ga, rfl, _, rfl⟩ fun D1 h1 k1 n1 g1 => ?_
    refine Tuple_ (spliced_more ?_)
    refine wpAny_Call_NameR (nameAB (frKeep F k1) Xg Tg rfl (by rfl) (by rfl) (by rfl) (by k_is) (by boot_fact) (by decide) ?_)
    k_steps
    show wpAny _ _ _ _ _ _
    refine itemsCall (knd := k5 _ _) (kvs := kv) zc ?_ rfl rfl
    refine Subscript_ (nameAL (frKeep F k1) rfl (by rfl) (by rfl) (wpAny_Constant_int ?_))
    refine item_tupleL (l := [.int e.o t1, .int e.m t2, .int e.s t3, .int e.q t4, .ref c]) ⟨_, k1 _ _ ga, rfl, _, rfl⟩ (by decide) (by decide) (j := 4) rfl rfl ?_
    refine ⟨rfl, (gc.keep k1).dictOf, ?_⟩
    k_steps
    show wpAny _ _ _ _ _ _
    have hen := entLen r _ (List.mem_of_getElem? he1)
    refine kdx_call (knd := k5 _ _) (d := c) (kvs := kv) (ep := ep) (s := ⟨_, _, _, _, _⟩) rfl ⟨_, Heap.get?_push_size _ rfl, rfl, rfl⟩ ((gc.keep k1).push _) (by rw [tc.length, sizeLine_eq]; dsimp only at hen; omega) fun h2 tk2 acc cc as k2 g2 hl2 G2 hacc => ?_
    refine spliced_none (wpAny_newObj_type ?_ (by size_fits))
    refine addTup (s := ⟨_, _, _, _, _⟩) (vs := [.int e.o t1, .int e.m t2, .int e.s t3, .int e.q t4]) (ws := [.ref _]) (Heap.get?_push_of_some _ (k2 _ _ (Heap.get?_push_of_some _ g1))) (Heap.get?_push_size _ rfl) (by simp) (by simp) (by rw [sizeLine_eq]; exact Nat.le_of_ble_eq_true rfl) ?_
    refine spliced_none (wpAny_newObj_type ?_ (by size_fits))
    exact entDone he1 k1 rfl k2 g2 tc hl2 G2 hacc rfl
  intro D28 ys28 ep28 sup28 h28 tk28 F28 N28 l28 ls28 s28 hP28
  replace F28 : Fr g0 s₁.heap.objs.size h28 _ := F28
  replace N28 : News g0 s₁.heap.objs.size h28 _ := N28
  rw [filterTrue, hkl] at hP28
  replace hP28 := pairedAt _ _ (Nat.le_refl _) hP28
  rw [List.take_of_length_le (Nat.le_refl _)] at hP28
  simp only [List.cons_append] at N28
  simp only [AllNe] at l28
  clear F27 N27
  dsimp only
  k_steps
  show wpAny _ _ _ _ _ _
  rename Fr _ _ _ _ => F29
  rename News _ _ _ _ => N29
  refine c_told0 (s := ⟨_, _, _, _, _⟩) (X.keeps F29.keep) (T.keeps F29.keep) (by decide) (show 207 < cLine by decide) (isListNews N29 (by k_mem)) hIr (by first | (with_reducible assumption) | omega) ?_
  intro lt ut tep supX h30 tk30 k30 n30' g30 hP30 hSX
  have F30 := frKeep F29 k30
  have supN30 := fun p (hp : p ∈ supP ++ sup28) => k30 _ _ (N29 p (by repeat (first | exact hp | refine List.Mem.tail _ ?_))).1
  have N30 := newsKeep N29 k30
  rw [told_eq] at hP30
  clear F29 N29
  dsimp only
  k_steps
  show wpAny _ _ _ _ _ _
  refine neRows (N30.get (show (D28, _) ∈ _ by k_mem)) hP28 (fun p hp => supN30 p (List.mem_append_right _ hp)) g30 hP30 (fun p hp => (hSX p hp).1) (show 71 < cLine by decide) ?_
  k_steps
  show wpAny _ _ _ _ _ _
  rename Fr _ _ _ _ => F31
  rename News _ _ _ _ => N31
  have supN31 := fun p (hp : p ∈ supP) => N31 p (by repeat (first | exact List.mem_append_left _ hp | refine List.Mem.tail _ ?_))
  refine compItems (knd := k5 _ _) (s := ⟨_, _, _, _, _⟩) (fun _ => false) (fun _ _ _ => True) (fun _ _ _ _ _ _ => trivial) rfl zP ⟨oP, esP, N31.get (show (dP, _) ∈ _ by k_mem), rP⟩ (by rw [sizeLine_eq]; omega) F31 N31 rfl rfl
    (fun Q' q => wpAny_Name (wpAny_loadName_cell (by rfl) (by rfl) (by rfl) ⟨_, N31.get (show (s₁.heap.objs.size + 1 + 1 + 1 + 1 + 1, _) ∈ _ by k_mem), dP26⟩ q) (by decide)) rfl (by decide) rfl (by decide) rfl rfl ?_ (fun _ _ _ _ _ _ _ _ _ _ _ _ _ _ _ hz => by cases hz) ?_
  · intro C D I gg i k v key m₁ h tk oI oD E' hv hkey hk F N
    obtain ⟨e, he1, ⟨a, c, oc, kv, t1, t2, t3, t4, rfl, ma, mc, dc, tc, zc⟩⟩ := tabGet TP hv
    have ga := F.keep _ _ (hk _ _ (supN31 _ ma).1)
    obtain ⟨es, ep, rr⟩ := id dc
    have gc : h.DictAt (k5 _ _) c kv ep := ⟨oc, es, F.keep _ _ (hk _ _ (supN31 _ mc).1), rr⟩
    have Xg := X.keeps (Keep.trans F31.keep hk)
    have Tg := T.keeps (Keep.trans F31.keep hk)
    have hen := entLen r _ (List.mem_of_getElem? he1)
    have hsum := tab_calls r _ (List.mem_of_getElem? he1)
    dsimp only at hen hsum
    refine wpAny_tests_one (wpAny_isTrue_Compare1 ?_)
    refine wpAny_Call_NameR (nameAG F Xg Tg rfl (by rfl) (by rfl) (by k_is) ?_)
    k_steps
    show wpAny _ _ _ _ _ _
    refine Subscript_ (nameAL F rfl (by rfl) (by rfl) (wpAny_Constant_int ?_))
    refine item_tupleL (l := [.int e.o t1, .int e.m t2, .int e.s t3, .int e.q t4, .ref c]) ⟨_, ga, rfl, _, rfl⟩ (by decide) (by decide) (j := 4) rfl rfl ?_
    k_steps
    show wpAny _ _ _ _ _ _
    refine c_ccalls0 (s := ⟨_, _, _, _, _⟩) (Xg.keeps F.keep) (Tg.keeps F.keep) (by decide) ⟨kv, ep, gc, tc, zc⟩ (by first | (with_reducible assumption) | omega) fun t' h' tk' kk => ?_
    rw [hsum]
    refine Subscript_ (nameAL (frKeep F kk) rfl (by rfl) (by rfl) (wpAny_Constant_int ?_))
    refine item_tupleL (l := [.int e.o t1, .int e.m t2, .int e.s t3, .int e.q t4, .ref c]) ⟨_, kk _ _ ga, rfl, _, rfl⟩ (by decide) (by decide) (j := 1) rfl rfl ?_
    refine ne_int (wpAny_truthy_bool ⟨_, _, rfl, kk, ?_⟩)
    simp
  intro D32 ys32 ep32 sup32 h32 tk32 F32 N32 l32 ls32 s32 hP32
  replace F32 : Fr g0 s₁.heap.objs.size h32 _ := F32
  replace N32 : News g0 s₁.heap.objs.size h32 _ := N32
  rw [show (List.range kvP.length).filter (fun _ => false) = [] by simp] at hP32
  cases hP32
  simp only [List.cons_append] at N32
  simp only [AllNe] at l32
  clear F31 N31
  dsimp only
  k_steps
  show wpAny _ _ _ _ _ _
  rename Fr _ _ _ _ => F33
  rename News _ _ _ _ => N33
  refine ne_intsK (vs := []) (us := []) (isListNews N33 (show (D32, _) ∈ _ by k_mem)) .nil (isListNews N33 (by k_mem)) .nil (show 71 < cLine by decide) ?_
  rw [decide_eq_true rfl]
  k_steps
  show wpAny _ _ _ _ _ _
  rename Fr _ _ _ _ => F34
  rename News _ _ _ _ => N34
  have supN34 := fun p (hp : p ∈ supP) => N34 p (by repeat (first | exact List.mem_append_left _ (List.mem_append_left _ hp) | refine List.Mem.tail _ ?_))
  refine wpAny_Assign_Name ?_ (by rfl)
  refine compI 5 (fun _ => true) (fun i => if q : i < 5 then ((mineOf r ⟨i, q⟩).length : Int) else 0) F34 N34 rfl (by decide) rfl (by decide) rfl ?_ (by intro _; rfl)
  k_steps
  show wpAny _ _ _ _ _ _
  refine srcAbc rfl F34 N34 rfl ?_ ?_ ?_
  · intro C D I gg i u m₁ h tk oI oD E' hk F N
    exact wpAny_tests_nil ⟨_, _, rfl, Keep.rfl, rfl⟩
  · intro C D I gg i u m₁ h tk oI oD E' _ hk F N
    have hcP := hk _ _ (N34.get (show (s₁.heap.objs.size + 1 + 1 + 1 + 1 + 1, _) ∈ _ by k_mem))
    have gd : h.DictOf (k5 _ _) dP kvP := ⟨oP, esP, epP, F.keep _ _ (hk _ _ (N34.get (show (dP, _) ∈ _ by k_mem))), rP⟩
    have hfi := find_ticks r i
    refine wpAny_IfExp (wpAny_isTrue_Compare1 (nameAL F rfl (by rfl) (by rfl) (nameAC F rfl (by rfl) (by rfl) hcP dP26 ?_)))
    refine wpAny_in_of (s := ⟨_, _, _, _, _⟩) (knd := k5 _ _) (k := i) (k5_is _ _) zP gd.mapOf (wpAny_truthy_bool ?_)
    rcases TP.find i with ⟨q1, q2⟩ | ⟨v, x, q1, q2, ⟨a, c, oc, kv, t1, t2, t3, t4, rfl, ma, mc, dc, tc, zc⟩⟩
    · rw [q1]
      rw [q2] at hfi
      rw [if_neg (by simp)]
      exact wpAny_Constant_int (intDone (by rw [dif_pos i.isLt]; exact hfi))
    · rw [q1]
      rw [q2] at hfi
      rw [Option.isSome_some, if_pos rfl]
      have ga := F.keep _ _ (hk _ _ (supN34 _ ma).1)
      refine Subscript_ (Subscript_ (nameAC F rfl (by rfl) (by rfl) hcP dP26 (nameAL F rfl (by rfl) (by rfl) ?_)))
      refine subscriptTail_ops (s := ⟨_, _, _, _, _⟩) gd.typeIs PySem.F.slot_dict_getitem.lookup (wpAny_getItem_of (knd := k5 _ _) (k := i) (k5_is _ _) gd.mapOf q1 ?_) (by with_unfolding_all rfl) (by intro _; with_unfolding_all rfl)
      refine wpAny_Constant_int ?_
      refine item_tupleT (l := [.int x.o t1, .int x.m t2, .int x.s t3, .int x.q t4, .ref c]) ⟨_, ga, rfl, _, rfl⟩ (by decide) (by decide) (j := 1) rfl rfl ?_
      exact intDone (by rw [dif_pos i.isLt]; exact hfi)
  intro J35 h35 n35 k35 D36 vs36 ep36 h36 tk36 F36 N36 l36 hI36 _
  replace F36 : Fr g0 s₁.heap.objs.size h36 _ := F36
  replace N36 : News g0 s₁.heap.objs.size h36 _ := N36
  replace hI36 : IntsAre vs36 [((mineOf r 0).length : Int), ((mineOf r 1).length : Int), ((mineOf r 2).length : Int), ((mineOf r 3).length : Int), ((mineOf r 4).length : Int)] := hI36
  refine wpAny_storeName_cell rfl rfl rfl ⟨_, N36.get (show (s₁.heap.objs.size + 1 + 1 + 1 + 1 + 1 + 1, _) ∈ _ by k_mem), by assumption⟩ fun h37 hc37 hs37 => ?_
  obtain ⟨oT37, gT37, dT37⟩ := hc37
  have c60 : g0.get? (s₁.heap.objs.size + 1 + 1 + 1 + 1 + 1 + 1) = none := N36.fresh (show (s₁.heap.objs.size + 1 + 1 + 1 + 1 + 1 + 1, _) ∈ _ by k_mem)
  have F37 := F36.change hs37 (show @Ne Nat (s₁.heap.objs.size + 1 + 1 + 1 + 1 + 1 + 1) s₁.heap.objs.size by omega) c60
  have k37 : ∀ b o, h36.get? b = some o → @Ne Nat b (s₁.heap.objs.size + 1 + 1 + 1 + 1 + 1 + 1) → h37.get? b = some o := fun b o e q => (hs37.2 _ q).trans e
  have neT := fun (b : Addr) (vs : Array Value) (ep : Nat) (e : h36.get? b = some (PySem.W.listOf vs ep)) => neSeq e (N36.get (show (s₁.heap.objs.size + 1 + 1 + 1 + 1 + 1 + 1, _) ∈ _ by k_mem)) (by assumption)
  have gD36 := N36.get (show (D36, _) ∈ _ by k_mem)
  have glc := N36.get (show (lc, _) ∈ _ by k_mem)
  have e37 := N36.get (show (37, _) ∈ _ by k_mem)
  have e30 := N36.get (show (30, _) ∈ _ by k_mem)
  have N37 := newsCons (k37 _ _ e37 (by first | (with_reducible assumption) | omega)) ⟨Nat.ne_of_lt z37, n37⟩ (newsCons (k37 _ _ e30 (by first | (with_reducible assumption) | omega)) ⟨Nat.ne_of_lt z30, n30⟩ (newsCons gT37 ⟨by show @Ne Nat _ _; omega, c60⟩ (newsCons (k37 _ _ gD36 (neT _ _ _ gD36)) (N36 (D36, _) (show _ ∈ _ by k_mem)).2 (newsCons (k37 _ _ glc (neT _ _ _ glc)) (N36 (lc, _) (show _ ∈ _ by k_mem)).2
    (newsCons (k37 _ _ (N36.get (show (s₁.heap.objs.size + 1, _) ∈ _ by k_mem)) (by first | (with_reducible assumption) | omega)) (N36 (s₁.heap.objs.size + 1, _) (show _ ∈ _ by k_mem)).2 (newsCons (k37 _ _ (N36.get (show (s₁.heap.objs.size + 1 + 1, _) ∈ _ by k_mem)) (by first | (with_reducible assumption) | omega)) (N36 (s₁.heap.objs.size + 1 + 1, _) (show _ ∈ _ by k_mem)).2
      (newsCons (k37 _ _ (N36.get (show (s₁.heap.objs.size + 1 + 1 + 1 + 1, _) ∈ _ by k_mem)) (by first | (with_reducible assumption) | omega)) (N36 (s₁.heap.objs.size + 1 + 1 + 1 + 1, _) (show _ ∈ _ by k_mem)).2 (News.nil (h₀ := g0) (L := s₁.heap.objs.size) (h := h37)))))))))
  clear F36 N36 hs37 F34 N34
  dsimp only
  k_steps
  show wpAny _ _ _ _ _ _
  rename Fr _ _ _ _ => F38
  rename News _ _ _ _ => N38
  refine compI 5 (fun _ => false) (fun i => (i : Int)) F38 N38 rfl (by decide) rfl (by decide) rfl ?_ (by intro _; rfl)
  k_steps
  show wpAny _ _ _ _ _ _
  rename News _ _ _ _ => N39
  rename Fr _ _ _ _ => F39
  refine srcRange rfl F39 N39 (by assumption) (by decide) (by rfl) ?_ (fun _ _ _ _ _ _ _ _ _ _ _ _ _ _ hz => by cases hz) ?_
  · rintro C D J gg i v m₁ h tk oI oD E' hi ⟨ti, rfl⟩ hk F N
    have hcT := hk _ _ (N39.get (show (s₁.heap.objs.size + 1 + 1 + 1 + 1 + 1 + 1, _) ∈ _ by k_mem))
    have hcC := hk _ _ (N39.get (show (s₁.heap.objs.size + 1, _) ∈ _ by k_mem))
    have hcG := hk _ _ (N39.get (show (s₁.heap.objs.size + 1 + 1, _) ∈ _ by k_mem))
    have hcM := hk _ _ (N39.get (show (s₁.heap.objs.size + 1 + 1 + 1 + 1, _) ∈ _ by k_mem))
    have hlc := hk _ _ (N39.get (show (lc, _) ∈ _ by k_mem))
    have hlt := hk _ _ (N39.get (show (D36, _) ∈ _ by k_mem))
    have Xg := X.keeps (Keep.trans F39.keep hk)
    have Tg := T.keeps (Keep.trans F39.keep hk)
    refine wpAny_tests_one (wpAny_isTrue_Compare1 ?_)
    refine wpAny_Call_NameR (nameAB F Xg Tg rfl (by rfl) (by rfl) (by rfl) (by k_is) (by boot_fact) (by decide) ?_)
    k_steps
    show wpAny _ _ _ _ _ _
    have hf := hfair ⟨i, hi⟩
    refine Subscript_ (nameAC F rfl (by rfl) (by rfl) hcT dT37 (nameAL F rfl (by rfl) (by rfl) ?_))
    refine item_list_ints ⟨_, F.keep _ _ hlt, rfl, _, rfl⟩ hI36 (by first | (with_reducible assumption) | omega) (by show (i : Int) < 5; omega) (by first | (with_reducible assumption) | omega) fun tA => ?_
    rw [Int.toNat_natCast, ticksAt r i hi]
    generalize ((mineOf r ⟨i, hi⟩).length : Int) = tI at *
    refine nameAC F rfl (by rfl) (by rfl) hcG dG (mul_int ?_ (IntMulOk.of_right (intBits_le_64 (by first | (with_reducible assumption) | omega) (by first | (with_reducible assumption) | omega))))
    refine wpAny_BinOp (Subscript_ (nameAC F rfl (by rfl) (by rfl) hcC dC (nameAL F rfl (by rfl) (by rfl) ?_)))
    refine item_list_ints (vs := [.int c0 u0, .int c1 u1, .int c2 u2, .int c3 u3, .int c4 u4]) ⟨_, F.keep _ _ hlc, rfl, _, rfl⟩ hIc (by first | (with_reducible assumption) | omega) (by show (i : Int) < 5; omega) (by first | (with_reducible assumption) | omega) fun tB => ?_
    rw [Int.toNat_natCast]
    dsimp only at hf
    generalize [c0, c1, c2, c3, c4].getD i 0 = cI at *
    rename Obj.data _ = Data.cell (some (Value.int (mn : Int) _)) => dM
    refine nameAC F rfl (by rfl) (by rfl) hcM dM (mul_int ?_ (IntMulOk.of_right (intBits_le_64 (by first | (with_reducible assumption) | omega) (by first | (with_reducible assumption) | omega))))
    refine sub_int ?_
    k_steps
    show wpAny _ _ _ _ _ _
    refine call_abs_int (s := ⟨_, _, _, _, _⟩) fun tC tkC => ?_
    refine nameAC F rfl (by rfl) (by rfl) hcG dG ?_
    refine ge_int (wpAny_truthy_bool ⟨_, _, rfl, Keep.rfl, decide_eq_false ?_⟩)
    split <;> omega
  intro J40 h40 n40 k40 D41 vs41 ep41 h41 tk41 F41 N41 l41 hI41 _
  replace F41 : Fr g0 s₁.heap.objs.size h41 _ := F41
  replace N41 : News g0 s₁.heap.objs.size h41 _ := N41
  replace hI41 : IntsAre vs41 [] := hI41
  cases hI41
  clear F39 N39
  dsimp only
  k_steps
  show wpAny _ _ _ _ _ _
  rename Fr _ _ _ _ => F42
  rename News _ _ _ _ => N42
  refine eq_intsK (vs := []) (us := []) (isListNews N42 (show (D41, _) ∈ _ by k_mem)) .nil (isListNews N42 (by k_mem)) .nil (show 71 < cLine by decide) ?_
  rw [decide_eq_true rfl]
  refine hQ _ _ ?_
  refine ⟨⟨.inl ⟨.bool true, .bool true, [], rfl, fun _ => rfl, .bool true, ?_, fun _ => ⟨List.nodup_nil, fun _ h => nomatch h⟩⟩, F42.keep, rfl, by assumption⟩, ⟨_, N42.get (show (37, tabObj _) ∈ _ by k_mem)⟩, ⟨_, N42.get (show (30, tabObj _) ∈ _ by k_mem)⟩, trivial⟩
  with_unfolding_all rfl
end Mine
end
theorem PySem.Challenge.cw_pe0206_01_holds : PySem.Challenge.rw_pe0206_01.Holds := by
  exact Mine.law_holds
