import PyProof.Rows.All
import Wide.All
import OpenK.AllK
import Wide.FinOn
import Open.Tops
import PyProof.SetScanFacts
import PyProof.Laws
import Lean
import PySem.Challenge.RW_rt0072_01
set_option Elab.async false
set_option maxRecDepth 100000
set_option linter.unusedVariables false
set_option linter.unusedSimpArgs false
set_option linter.unusedSectionVars false
section
open PySem PySem.W PyProof.Rows
namespace Mine
noncomputable abbrev pwF : Program := PySem.Challenge.pw_rt0072_01
/-- the statements of the row's program, by their places -/
noncomputable def nth : List Stmt → Nat → Stmt
  | a :: _, 0 => a
  | _ :: l, k + 1 => nth l k
  | [], _ => .Pass ⟨0, 0, 0, 0⟩
noncomputable def st (k : Nat) : Stmt := nth pwF.main.body k
noncomputable def inB (x : Stmt) (j : Nat) : Stmt := match x with
  | .FunctionDef _ _ body .. => nth body j
  | .ClassDef _ _ _ body .. => nth body j
  | x => x
/-- what a def makes -/
noncomputable def fD (x : Stmt) (q : Str) (g : Addr) (cl : List (Str × Addr)) (d kw doc pm : Value) (an : Option Addr) (co ct : Value) (bu : Addr) : FuncData := match x with
  | .FunctionDef name args body _ _ _ scope _ _ _ => ⟨name, q, args, .stmts body, scope, g, cl, d, kw, doc, pm, an, co, ct, bu⟩
  | _ => default
namespace suf
noncomputable def o_140 (P : Params) : Obj := (Obj.mk (Value.type "function") Option.none (Data.func (fD (st 32) (Str.ofString "fspath") 3 ([]) Value.none Value.none Value.none (Value.str (Str.ofString "os") 366) Option.none (Value.ref 140) Value.none 0)) (List.toArray ([])))
noncomputable def o_157 (P : Params) : Obj := (Obj.mk (Value.type "function") Option.none (Data.func (fD (st 36) (Str.ofString "_get_sep") 3 ([]) Value.none Value.none Value.none (Value.str (Str.ofString "cpy313.posixpath") 391) Option.none (Value.ref 154) Value.none 0)) (List.toArray ([])))
noncomputable def o_164 (P : Params) : Obj := (Obj.mk (Value.type "function") Option.none (Data.func (fD (st 37) (Str.ofString "join") 3 ([]) Value.none Value.none Value.none (Value.str (Str.ofString "cpy313.posixpath") 391) Option.none (Value.ref 161) Value.none 0)) (List.toArray ([])))
noncomputable def o_169 (P : Params) : Obj := (Obj.mk (Value.type "function") Option.none (Data.func (fD (st 38) (Str.ofString "commonpath") 3 ([]) Value.none Value.none Value.none (Value.str (Str.ofString "cpy313.posixpath") 391) Option.none (Value.ref 166) Value.none 0)) (List.toArray ([])))
noncomputable def o_185 (P : Params) : Obj := (Obj.mk (Value.type "dict") Option.none (Data.dict (List.toArray ((DictEntry.mk (PyData.keyHash P (Str.ofString "__module__")) (Value.str (Str.ofString "__module__") 478) (Value.str (Str.ofString "cpy313.tomllib._parser") 424)) :: (DictEntry.mk (PyData.keyHash P (Str.ofString "__firstlineno__")) (Value.str (Str.ofString "__firstlineno__") 482) (Value.int 159 481)) :: (DictEntry.mk (PyData.keyHash P (Str.ofString "__static_attributes__")) (Value.str (Str.ofString "__static_attributes__") 483) (Value.ref 179)) :: (DictEntry.mk (PyData.keyHash P (Str.ofString "__weakref__")) (Value.str (Str.ofString "__weakref__") 485) (Value.ref 182)) :: (DictEntry.mk (PyData.keyHash P (Str.ofString "__doc__")) (Value.str (Str.ofString "__doc__") 486) Value.none) :: [])) 3) (List.toArray ([])))
noncomputable def o_196 (P : Params) : Obj := (Obj.mk (Value.type "function") Option.none (Data.func (fD (st 44) (Str.ofString "skip_until") 3 ([]) Value.none Value.none Value.none (Value.str (Str.ofString "cpy313.tomllib._parser") 424) Option.none (Value.ref 190) Value.none 0)) (List.toArray ([])))
noncomputable def o_20 (P : Params) : Obj := (Obj.mk (Value.type "function") Option.none (Data.func (fD (st 2) (Str.ofString "S_IFMT") 3 ([]) Value.none Value.none Value.none (Value.str (Str.ofString "cpy313.stat") 194) Option.none (Value.ref 27) Value.none 0)) (List.toArray ([])))
noncomputable def o_203 (P : Params) : Obj := (Obj.mk (Value.type "function") Option.none (Data.func (fD (st 45) (Str.ofString "parse_hex_char") 3 ([]) Value.none Value.none Value.none (Value.str (Str.ofString "cpy313.tomllib._parser") 424) Option.none (Value.ref 197) Value.none 0)) (List.toArray ([])))
noncomputable def o_209 (P : Params) : Obj := (Obj.mk (Value.type "code") Option.none (Data.fields (List.toArray ((Value.str (Str.ofString "suffixed_err") 512) :: (Value.str (Str.ofString "suffixed_err") 513) :: (Value.str (Str.ofString "/claim/cut.py") 514) :: (Value.int 182 0) :: (Value.int 3 0) :: (Value.int 0 0) :: (Value.int 0 0) :: (Value.int 3 0) :: (Value.ref 199) :: (Value.bool Bool.true) :: (Value.int 181 0) :: (Value.ref 200) :: Value.none :: (Value.ref 201) :: (Value.ref 202) :: (Value.ref 203) :: (Value.int 519 0) :: (Value.int 182 0) :: (Value.str (Str.ofString "/claim/cut.py") 520) :: []))) (List.toArray ([])))
noncomputable def o_210 (P : Params) : Obj := (Obj.mk (Value.type "function") Option.none (Data.func (fD (st 46) (Str.ofString "suffixed_err") 3 ([]) Value.none Value.none Value.none (Value.str (Str.ofString "cpy313.tomllib._parser") 424) Option.none (Value.ref 204) Value.none 0)) (List.toArray ([])))
noncomputable def o_217 (P : Params) : Obj := (Obj.mk (Value.type "function") Option.none (Data.func (fD (st 47) (Str.ofString "is_unicode_scalar_value") 3 ([]) Value.none Value.none Value.none (Value.str (Str.ofString "cpy313.tomllib._parser") 424) Option.none (Value.ref 211) Value.none 0)) (List.toArray ([])))
noncomputable def o_224 (P : Params) : Obj := (Obj.mk (Value.type "function") Option.none (Data.func (fD (st 49) (Str.ofString "_law_signs") 3 ([]) Value.none Value.none Value.none (Value.str (Str.ofString "law_rt0072_01") 529) Option.none (Value.ref 218) Value.none 0)) (List.toArray ([])))
noncomputable def o_229 (P : Params) : Obj := (Obj.mk (Value.type "function") Option.none (Data.func (fD (st 50) (Str.ofString "_law_figures") 3 ([]) Value.none Value.none Value.none (Value.str (Str.ofString "law_rt0072_01") 529) Option.none (Value.ref 223) Value.none 0)) (List.toArray ([])))
noncomputable def o_231 (P : Params) : Obj := (Obj.mk (Value.type "dict") Option.none (Data.dict (List.toArray ((DictEntry.mk (PyData.keyHash P (Str.ofString "__name__")) (Value.str (Str.ofString "__name__") 165) (Value.str (Str.ofString "law_rt0072_01") 529)) :: (DictEntry.mk (PyData.keyHash P (Str.ofString "__doc__")) (Value.str (Str.ofString "__doc__") 166) Value.none) :: (DictEntry.mk (PyData.keyHash P (Str.ofString "__package__")) (Value.str (Str.ofString "__package__") 167) Value.none) :: (DictEntry.mk (PyData.keyHash P (Str.ofString "__loader__")) (Value.str (Str.ofString "__loader__") 168) (Value.builtin "__main__.__loader__#opaque")) :: (DictEntry.mk (PyData.keyHash P (Str.ofString "__spec__")) (Value.str (Str.ofString "__spec__") 169) Value.none) :: (DictEntry.mk (PyData.keyHash P (Str.ofString "__annotations__")) (Value.str (Str.ofString "__annotations__") 170) (Value.ref 6)) :: (DictEntry.mk (PyData.keyHash P (Str.ofString "__builtins__")) (Value.str (Str.ofString "__builtins__") 171) (Value.ref 4)) :: (DictEntry.mk (PyData.keyHash P (Str.ofString "__file__")) (Value.str (Str.ofString "__file__") 173) (Value.str (Str.ofString "/claim/cut.py") 172)) :: (DictEntry.mk (PyData.keyHash P (Str.ofString "__cached__")) (Value.str (Str.ofString "__cached__") 174) Value.none) :: (DictEntry.mk (PyData.keyHash P (Str.ofString "_wall")) (Value.str (Str.ofString "_wall") 193) (Value.ref 21)) :: (DictEntry.mk (PyData.keyHash P (Str.ofString "S_IFMT")) (Value.str (Str.ofString "S_IFMT") 202) (Value.ref 28)) :: (DictEntry.mk (PyData.keyHash P (Str.ofString "S_IFDIR")) (Value.str (Str.ofString "S_IFDIR") 204) (Value.int 16384 203)) :: (DictEntry.mk (PyData.keyHash P (Str.ofString "S_IFCHR")) (Value.str (Str.ofString "S_IFCHR") 206) (Value.int 8192 205)) :: (DictEntry.mk (PyData.keyHash P (Str.ofString "S_IFBLK")) (Value.str (Str.ofString "S_IFBLK") 208) (Value.int 24576 207)) :: (DictEntry.mk (PyData.keyHash P (Str.ofString "S_IFREG")) (Value.str (Str.ofString "S_IFREG") 210) (Value.int 32768 209)) :: (DictEntry.mk (PyData.keyHash P (Str.ofString "S_IFIFO")) (Value.str (Str.ofString "S_IFIFO") 212) (Value.int 4096 211)) :: (DictEntry.mk (PyData.keyHash P (Str.ofString "S_IFLNK")) (Value.str (Str.ofString "S_IFLNK") 214) (Value.int 40960 213)) :: (DictEntry.mk (PyData.keyHash P (Str.ofString "S_IFSOCK")) (Value.str (Str.ofString "S_IFSOCK") 216) (Value.int 49152 215)) :: (DictEntry.mk (PyData.keyHash P (Str.ofString "S_ISUID")) (Value.str (Str.ofString "S_ISUID") 218) (Value.int 2048 217)) :: (DictEntry.mk (PyData.keyHash P (Str.ofString "S_ISGID")) (Value.str (Str.ofString "S_ISGID") 220) (Value.int 1024 219)) :: (DictEntry.mk (PyData.keyHash P (Str.ofString "S_ISVTX")) (Value.str (Str.ofString "S_ISVTX") 222) (Value.int 512 221)) :: (DictEntry.mk (PyData.keyHash P (Str.ofString "S_IRUSR")) (Value.str (Str.ofString "S_IRUSR") 224) (Value.int 256 223)) :: (DictEntry.mk (PyData.keyHash P (Str.ofString "S_IWUSR")) (Value.str (Str.ofString "S_IWUSR") 226) (Value.int 128 225)) :: (DictEntry.mk (PyData.keyHash P (Str.ofString "S_IXUSR")) (Value.str (Str.ofString "S_IXUSR") 228) (Value.int 64 227)) :: (DictEntry.mk (PyData.keyHash P (Str.ofString "S_IRGRP")) (Value.str (Str.ofString "S_IRGRP") 230) (Value.int 32 229)) :: (DictEntry.mk (PyData.keyHash P (Str.ofString "S_IWGRP")) (Value.str (Str.ofString "S_IWGRP") 232) (Value.int 16 231)) :: (DictEntry.mk (PyData.keyHash P (Str.ofString "S_IXGRP")) (Value.str (Str.ofString "S_IXGRP") 234) (Value.int 8 233)) :: (DictEntry.mk (PyData.keyHash P (Str.ofString "S_IROTH")) (Value.str (Str.ofString "S_IROTH") 236) (Value.int 4 235)) :: (DictEntry.mk (PyData.keyHash P (Str.ofString "S_IWOTH")) (Value.str (Str.ofString "S_IWOTH") 238) (Value.int 2 237)) :: (DictEntry.mk (PyData.keyHash P (Str.ofString "S_IXOTH")) (Value.str (Str.ofString "S_IXOTH") 240) (Value.int 1 239)) :: (DictEntry.mk (PyData.keyHash P (Str.ofString "_filemode_table")) (Value.str (Str.ofString "_filemode_table") 266) (Value.ref 61)) :: (DictEntry.mk (PyData.keyHash P (Str.ofString "filemode")) (Value.str (Str.ofString "filemode") 278) (Value.ref 68)) :: (DictEntry.mk (PyData.keyHash P (Str.ofString "_plain_name")) (Value.str (Str.ofString "_plain_name") 289) (Value.ref 75)) :: (DictEntry.mk (PyData.keyHash P (Str.ofString "ABCMeta")) (Value.str (Str.ofString "ABCMeta") 315) (Value.ref 92)) :: (DictEntry.mk (PyData.keyHash P (Str.ofString "_ABCLike")) (Value.str (Str.ofString "_ABCLike") 358) (Value.ref 125)) :: (DictEntry.mk (PyData.keyHash P (Str.ofString "_abc_plain_meta")) (Value.str (Str.ofString "_abc_plain_meta") 365) (Value.ref 134)) :: (DictEntry.mk (PyData.keyHash P (Str.ofString "fspath")) (Value.str (Str.ofString "fspath") 377) (Value.ref 141)) :: (DictEntry.mk (PyData.keyHash P (Str.ofString "_check_arg_types")) (Value.str (Str.ofString "_check_arg_types") 390) (Value.ref 148)) :: (DictEntry.mk (PyData.keyHash P (Str.ofString "_get_sep")) (Value.str (Str.ofString "_get_sep") 399) (Value.ref 155)) :: (DictEntry.mk (PyData.keyHash P (Str.ofString "join")) (Value.str (Str.ofString "join") 410) (Value.ref 162)) :: (DictEntry.mk (PyData.keyHash P (Str.ofString "commonpath")) (Value.str (Str.ofString "commonpath") 416) (Value.ref 167)) :: (DictEntry.mk (PyData.keyHash P (Str.ofString "digits")) (Value.str (Str.ofString "digits") 418) (Value.str (Str.ofString "0123456789") 417)) :: (DictEntry.mk (PyData.keyHash P (Str.ofString "hexdigits")) (Value.str (Str.ofString "hexdigits") 423) (Value.str (Str.ofString "0123456789abcdefABCDEF") 422)) :: (DictEntry.mk (PyData.keyHash P (Str.ofString "HEXDIGIT_CHARS")) (Value.str (Str.ofString "HEXDIGIT_CHARS") 470) (Value.ref 168)) :: (DictEntry.mk (PyData.keyHash P (Str.ofString "TOMLDecodeError")) (Value.str (Str.ofString "TOMLDecodeError") 488) (Value.ref 181)) :: (DictEntry.mk (PyData.keyHash P (Str.ofString "skip_until")) (Value.str (Str.ofString "skip_until") 500) (Value.ref 191)) :: (DictEntry.mk (PyData.keyHash P (Str.ofString "parse_hex_char")) (Value.str (Str.ofString "parse_hex_char") 511) (Value.ref 198)) :: (DictEntry.mk (PyData.keyHash P (Str.ofString "suffixed_err")) (Value.str (Str.ofString "suffixed_err") 521) (Value.ref 205)) :: (DictEntry.mk (PyData.keyHash P (Str.ofString "is_unicode_scalar_value")) (Value.str (Str.ofString "is_unicode_scalar_value") 528) (Value.ref 212)) :: (DictEntry.mk (PyData.keyHash P (Str.ofString "_law_signs")) (Value.str (Str.ofString "_law_signs") 541) (Value.ref 219)) :: (DictEntry.mk (PyData.keyHash P (Str.ofString "_law_figures")) (Value.str (Str.ofString "_law_figures") 547) (Value.ref 224)) :: (DictEntry.mk (PyData.keyHash P (Str.ofString "_law_ends")) (Value.str (Str.ofString "_law_ends") 558) (Value.ref 231)) :: (DictEntry.mk (PyData.keyHash P (Str.ofString "_law_period")) (Value.str (Str.ofString "_law_period") 566) (Value.ref 238)) :: (DictEntry.mk (PyData.keyHash P (Str.ofString "_law_again")) (Value.str (Str.ofString "_law_again") 577) (Value.ref 245)) :: (DictEntry.mk (PyData.keyHash P (Str.ofString "_law_across")) (Value.str (Str.ofString "_law_across") 586) (Value.ref 252)) :: (DictEntry.mk (PyData.keyHash P (Str.ofString "law")) (Value.str (Str.ofString "law") 592) (Value.ref 257)) :: [])) 56) (List.toArray ([])))
noncomputable def o_239 (P : Params) : Obj := (Obj.mk (Value.type "function") Option.none (Data.func (fD (st 51) (Str.ofString "_law_ends") 3 ([]) Value.none Value.none Value.none (Value.str (Str.ofString "law_rt0072_01") 529) Option.none (Value.ref 230) Value.none 0)) (List.toArray ([])))
noncomputable def o_246 (P : Params) : Obj := (Obj.mk (Value.type "function") Option.none (Data.func (fD (st 52) (Str.ofString "_law_period") 3 ([]) Value.none Value.none Value.none (Value.str (Str.ofString "law_rt0072_01") 529) Option.none (Value.ref 237) Value.none 0)) (List.toArray ([])))
noncomputable def o_253 (P : Params) : Obj := (Obj.mk (Value.type "function") Option.none (Data.func (fD (st 53) (Str.ofString "_law_again") 3 ([]) Value.none Value.none Value.none (Value.str (Str.ofString "law_rt0072_01") 529) Option.none (Value.ref 244) Value.none 0)) (List.toArray ([])))
noncomputable def o_260 (P : Params) : Obj := (Obj.mk (Value.type "function") Option.none (Data.func (fD (st 54) (Str.ofString "_law_across") 3 ([]) Value.none Value.none Value.none (Value.str (Str.ofString "law_rt0072_01") 529) Option.none (Value.ref 251) Value.none 0)) (List.toArray ([])))
noncomputable def o_265 (P : Params) : Obj := (Obj.mk (Value.type "function") Option.none (Data.func (fD (st 55) (Str.ofString "law") 3 ([]) Value.none Value.none Value.none (Value.str (Str.ofString "law_rt0072_01") 529) Option.none (Value.ref 256) Value.none 0)) (List.toArray ([])))
noncomputable def o_63 (P : Params) : Obj := (Obj.mk (Value.type "function") Option.none (Data.func (fD (st 23) (Str.ofString "filemode") 3 ([]) Value.none Value.none Value.none (Value.str (Str.ofString "cpy313.stat") 194) Option.none (Value.ref 67) Value.none 0)) (List.toArray ([])))
noncomputable def o_1 (P : Params) : Obj := (Obj.mk (Value.type "tuple") Option.none (Data.seq (List.toArray ([])) 0) (List.toArray ([])))
noncomputable def o_232 (P : Params) : Obj := (Obj.mk Value.none Option.none (Data.fields (List.toArray ((Value.int 1 0) :: (Value.int 0 0) :: (Value.ref 20) :: (Value.int 5 0) :: (Value.int 0 0) :: (Value.ref 27) :: (Value.int 27 0) :: (Value.int 0 0) :: (Value.ref 67) :: (Value.int 45 0) :: (Value.int 0 0) :: (Value.ref 74) :: (Value.int 51 0) :: (Value.int 0 0) :: (Value.ref 81) :: (Value.int 56 0) :: (Value.int 0 0) :: (Value.ref 100) :: (Value.int 71 0) :: (Value.int 0 0) :: (Value.ref 133) :: (Value.int 75 0) :: (Value.int 0 0) :: (Value.ref 140) :: (Value.int 92 0) :: (Value.int 0 0) :: (Value.ref 147) :: (Value.int 104 0) :: (Value.int 0 0) :: (Value.ref 154) :: (Value.int 109 0) :: (Value.int 0 0) :: (Value.ref 161) :: (Value.int 126 0) :: (Value.int 0 0) :: (Value.ref 166) :: (Value.int 159 0) :: (Value.int 0 0) :: (Value.ref 177) :: (Value.int 161 0) :: (Value.int 0 0) :: (Value.ref 190) :: (Value.int 173 0) :: (Value.int 0 0) :: (Value.ref 197) :: (Value.int 182 0) :: (Value.int 0 0) :: (Value.ref 204) :: (Value.int 194 0) :: (Value.int 0 0) :: (Value.ref 211) :: (Value.int 197 0) :: (Value.int 0 0) :: (Value.ref 218) :: (Value.int 208 0) :: (Value.int 0 0) :: (Value.ref 223) :: (Value.int 210 0) :: (Value.int 0 0) :: (Value.ref 230) :: (Value.int 217 0) :: (Value.int 0 0) :: (Value.ref 237) :: (Value.int 222 0) :: (Value.int 0 0) :: (Value.ref 244) :: (Value.int 230 0) :: (Value.int 0 0) :: (Value.ref 251) :: (Value.int 235 0) :: (Value.int 0 0) :: (Value.ref 256) :: []))) (List.toArray ([])))
noncomputable def o_3 (P : Params) : Obj := (Obj.mk (Value.type "code") Option.none (Data.fields (List.toArray ((Value.str (Str.ofString "<module>") 182) :: (Value.str (Str.ofString "<module>") 183) :: (Value.str (Str.ofString "/claim/cut.py") 184) :: (Value.int 1 0) :: (Value.int 0 0) :: (Value.int 0 0) :: (Value.int 0 0) :: (Value.int 0 0) :: (Value.ref 11) :: (Value.bool Bool.false) :: (Value.int 181 0) :: (Value.ref 12) :: Value.none :: Value.none :: Value.none :: Value.none :: (Value.int 185 0) :: (Value.int 1 0) :: (Value.str (Str.ofString "/claim/cut.py") 186) :: []))) (List.toArray ([])))
noncomputable def o_4 (P : Params) : Obj := (Obj.mk (Value.type "frame") Option.none Data.plain (List.toArray ((Option.some (Value.ref 13)) :: (Option.some (Value.ref 3)) :: (Option.some (Value.ref 3)) :: Option.none :: (Option.some (Value.str (Str.ofString "__main__") 164)) :: Option.none :: (Option.some (Value.ref 0)) :: [])))
noncomputable def o_8 (P : Params) : Obj := (Obj.mk Value.none Option.none (Data.fields (List.toArray ([]))) (List.toArray ([])))
noncomputable def o_9 (P : Params) : Obj := (Obj.mk (Value.type "tuple") Option.none (Data.seq (List.toArray ((Value.str (Str.ofString "k") 190) :: [])) 0) (List.toArray ([])))
noncomputable def o_11 (P : Params) : Obj := (Obj.mk Value.none Option.none (Data.func (fD (st 0) (Str.ofString "_wall") 0 ([]) Value.none Value.none Value.none Value.none Option.none Value.none Value.none 0)) (List.toArray ([])))
noncomputable def o_12 (P : Params) : Obj := (Obj.mk (Value.type "code") Option.none (Data.fields (List.toArray ((Value.str (Str.ofString "_wall") 187) :: (Value.str (Str.ofString "_wall") 188) :: (Value.str (Str.ofString "/claim/cut.py") 189) :: (Value.int 1 0) :: (Value.int 1 0) :: (Value.int 0 0) :: (Value.int 0 0) :: (Value.int 3 0) :: (Value.ref 15) :: (Value.bool Bool.true) :: (Value.int 181 0) :: (Value.ref 16) :: Value.none :: (Value.ref 17) :: (Value.ref 18) :: (Value.ref 19) :: (Value.int 191 0) :: (Value.int 1 0) :: (Value.str (Str.ofString "/claim/cut.py") 192) :: []))) (List.toArray ([])))
noncomputable def o_13 (P : Params) : Obj := (Obj.mk (Value.type "function") Option.none (Data.func (fD (st 0) (Str.ofString "_wall") 3 ([]) Value.none Value.none Value.none (Value.str (Str.ofString "__main__") 164) Option.none (Value.ref 20) Value.none 0)) (List.toArray ([])))
noncomputable def o_16 (P : Params) : Obj := (Obj.mk (Value.type "tuple") Option.none (Data.seq (List.toArray ((Value.str (Str.ofString "mode") 199) :: [])) 0) (List.toArray ([])))
noncomputable def o_18 (P : Params) : Obj := (Obj.mk Value.none Option.none (Data.func (fD (st 2) (Str.ofString "S_IFMT") 0 ([]) Value.none Value.none Value.none Value.none Option.none Value.none Value.none 0)) (List.toArray ([])))
noncomputable def o_19 (P : Params) : Obj := (Obj.mk (Value.type "code") Option.none (Data.fields (List.toArray ((Value.str (Str.ofString "S_IFMT") 196) :: (Value.str (Str.ofString "S_IFMT") 197) :: (Value.str (Str.ofString "/claim/cut.py") 198) :: (Value.int 5 0) :: (Value.int 1 0) :: (Value.int 0 0) :: (Value.int 0 0) :: (Value.int 3 0) :: (Value.ref 22) :: (Value.bool Bool.true) :: (Value.int 181 0) :: (Value.ref 23) :: Value.none :: (Value.ref 24) :: (Value.ref 25) :: (Value.ref 26) :: (Value.int 200 0) :: (Value.int 5 0) :: (Value.str (Str.ofString "/claim/cut.py") 201) :: []))) (List.toArray ([])))
noncomputable def o_21 (P : Params) : Obj := (Obj.mk (Value.type "tuple") Option.none (Data.seq (List.toArray ((Value.int 40960 213) :: (Value.str (Str.ofString "l") 241) :: [])) 0) (List.toArray ([])))
noncomputable def o_22 (P : Params) : Obj := (Obj.mk (Value.type "tuple") Option.none (Data.seq (List.toArray ((Value.int 49152 215) :: (Value.str (Str.ofString "s") 242) :: [])) 0) (List.toArray ([])))
noncomputable def o_23 (P : Params) : Obj := (Obj.mk (Value.type "tuple") Option.none (Data.seq (List.toArray ((Value.int 32768 209) :: (Value.str (Str.ofString "-") 243) :: [])) 0) (List.toArray ([])))
noncomputable def o_24 (P : Params) : Obj := (Obj.mk (Value.type "tuple") Option.none (Data.seq (List.toArray ((Value.int 24576 207) :: (Value.str (Str.ofString "b") 244) :: [])) 0) (List.toArray ([])))
noncomputable def o_25 (P : Params) : Obj := (Obj.mk (Value.type "tuple") Option.none (Data.seq (List.toArray ((Value.int 16384 203) :: (Value.str (Str.ofString "d") 245) :: [])) 0) (List.toArray ([])))
noncomputable def o_26 (P : Params) : Obj := (Obj.mk (Value.type "tuple") Option.none (Data.seq (List.toArray ((Value.int 8192 205) :: (Value.str (Str.ofString "c") 246) :: [])) 0) (List.toArray ([])))
noncomputable def o_27 (P : Params) : Obj := (Obj.mk (Value.type "tuple") Option.none (Data.seq (List.toArray ((Value.int 4096 211) :: (Value.str (Str.ofString "p") 247) :: [])) 0) (List.toArray ([])))
noncomputable def o_28 (P : Params) : Obj := (Obj.mk (Value.type "tuple") Option.none (Data.seq (List.toArray ((Value.ref 29) :: (Value.ref 30) :: (Value.ref 31) :: (Value.ref 32) :: (Value.ref 33) :: (Value.ref 34) :: (Value.ref 35) :: [])) 0) (List.toArray ([])))
noncomputable def o_29 (P : Params) : Obj := (Obj.mk (Value.type "tuple") Option.none (Data.seq (List.toArray ((Value.int 256 223) :: (Value.str (Str.ofString "r") 248) :: [])) 0) (List.toArray ([])))
noncomputable def o_30 (P : Params) : Obj := (Obj.mk (Value.type "tuple") Option.none (Data.seq (List.toArray ((Value.ref 37) :: [])) 0) (List.toArray ([])))
noncomputable def o_31 (P : Params) : Obj := (Obj.mk (Value.type "tuple") Option.none (Data.seq (List.toArray ((Value.int 128 225) :: (Value.str (Str.ofString "w") 249) :: [])) 0) (List.toArray ([])))
noncomputable def o_32 (P : Params) : Obj := (Obj.mk (Value.type "tuple") Option.none (Data.seq (List.toArray ((Value.ref 39) :: [])) 0) (List.toArray ([])))
noncomputable def o_33 (P : Params) : Obj := (Obj.mk (Value.type "tuple") Option.none (Data.seq (List.toArray ((Value.int 2112 250) :: (Value.str (Str.ofString "s") 251) :: [])) 0) (List.toArray ([])))
noncomputable def o_34 (P : Params) : Obj := (Obj.mk (Value.type "tuple") Option.none (Data.seq (List.toArray ((Value.int 2048 217) :: (Value.str (Str.ofString "S") 252) :: [])) 0) (List.toArray ([])))
noncomputable def o_35 (P : Params) : Obj := (Obj.mk (Value.type "tuple") Option.none (Data.seq (List.toArray ((Value.int 64 227) :: (Value.str (Str.ofString "x") 253) :: [])) 0) (List.toArray ([])))
noncomputable def o_36 (P : Params) : Obj := (Obj.mk (Value.type "tuple") Option.none (Data.seq (List.toArray ((Value.ref 41) :: (Value.ref 42) :: (Value.ref 43) :: [])) 0) (List.toArray ([])))
noncomputable def o_37 (P : Params) : Obj := (Obj.mk (Value.type "tuple") Option.none (Data.seq (List.toArray ((Value.int 32 229) :: (Value.str (Str.ofString "r") 254) :: [])) 0) (List.toArray ([])))
noncomputable def o_38 (P : Params) : Obj := (Obj.mk (Value.type "tuple") Option.none (Data.seq (List.toArray ((Value.ref 45) :: [])) 0) (List.toArray ([])))
noncomputable def o_39 (P : Params) : Obj := (Obj.mk (Value.type "tuple") Option.none (Data.seq (List.toArray ((Value.int 16 231) :: (Value.str (Str.ofString "w") 255) :: [])) 0) (List.toArray ([])))
noncomputable def o_40 (P : Params) : Obj := (Obj.mk (Value.type "tuple") Option.none (Data.seq (List.toArray ((Value.ref 47) :: [])) 0) (List.toArray ([])))
noncomputable def o_41 (P : Params) : Obj := (Obj.mk (Value.type "tuple") Option.none (Data.seq (List.toArray ((Value.int 1032 256) :: (Value.str (Str.ofString "s") 257) :: [])) 0) (List.toArray ([])))
noncomputable def o_42 (P : Params) : Obj := (Obj.mk (Value.type "tuple") Option.none (Data.seq (List.toArray ((Value.int 1024 219) :: (Value.str (Str.ofString "S") 258) :: [])) 0) (List.toArray ([])))
noncomputable def o_43 (P : Params) : Obj := (Obj.mk (Value.type "tuple") Option.none (Data.seq (List.toArray ((Value.int 8 233) :: (Value.str (Str.ofString "x") 259) :: [])) 0) (List.toArray ([])))
noncomputable def o_44 (P : Params) : Obj := (Obj.mk (Value.type "tuple") Option.none (Data.seq (List.toArray ((Value.ref 49) :: (Value.ref 50) :: (Value.ref 51) :: [])) 0) (List.toArray ([])))
noncomputable def o_45 (P : Params) : Obj := (Obj.mk (Value.type "tuple") Option.none (Data.seq (List.toArray ((Value.int 4 235) :: (Value.str (Str.ofString "r") 260) :: [])) 0) (List.toArray ([])))
noncomputable def o_46 (P : Params) : Obj := (Obj.mk (Value.type "tuple") Option.none (Data.seq (List.toArray ((Value.ref 53) :: [])) 0) (List.toArray ([])))
noncomputable def o_47 (P : Params) : Obj := (Obj.mk (Value.type "tuple") Option.none (Data.seq (List.toArray ((Value.int 2 237) :: (Value.str (Str.ofString "w") 261) :: [])) 0) (List.toArray ([])))
noncomputable def o_48 (P : Params) : Obj := (Obj.mk (Value.type "tuple") Option.none (Data.seq (List.toArray ((Value.ref 55) :: [])) 0) (List.toArray ([])))
noncomputable def o_49 (P : Params) : Obj := (Obj.mk (Value.type "tuple") Option.none (Data.seq (List.toArray ((Value.int 513 262) :: (Value.str (Str.ofString "t") 263) :: [])) 0) (List.toArray ([])))
noncomputable def o_50 (P : Params) : Obj := (Obj.mk (Value.type "tuple") Option.none (Data.seq (List.toArray ((Value.int 512 221) :: (Value.str (Str.ofString "T") 264) :: [])) 0) (List.toArray ([])))
noncomputable def o_51 (P : Params) : Obj := (Obj.mk (Value.type "tuple") Option.none (Data.seq (List.toArray ((Value.int 1 239) :: (Value.str (Str.ofString "x") 265) :: [])) 0) (List.toArray ([])))
noncomputable def o_52 (P : Params) : Obj := (Obj.mk (Value.type "tuple") Option.none (Data.seq (List.toArray ((Value.ref 57) :: (Value.ref 58) :: (Value.ref 59) :: [])) 0) (List.toArray ([])))
noncomputable def o_53 (P : Params) : Obj := (Obj.mk (Value.type "tuple") Option.none (Data.seq (List.toArray ((Value.ref 36) :: (Value.ref 38) :: (Value.ref 40) :: (Value.ref 44) :: (Value.ref 46) :: (Value.ref 48) :: (Value.ref 52) :: (Value.ref 54) :: (Value.ref 56) :: (Value.ref 60) :: [])) 0) (List.toArray ([])))
noncomputable def o_59 (P : Params) : Obj := (Obj.mk (Value.type "tuple") Option.none (Data.seq (List.toArray ((Value.str (Str.ofString "mode") 270) :: (Value.str (Str.ofString "perm") 271) :: (Value.str (Str.ofString "index") 272) :: (Value.str (Str.ofString "table") 273) :: (Value.str (Str.ofString "bit") 274) :: (Value.str (Str.ofString "char") 275) :: [])) 0) (List.toArray ([])))
noncomputable def o_61 (P : Params) : Obj := (Obj.mk Value.none Option.none (Data.func (fD (st 23) (Str.ofString "filemode") 0 ([]) Value.none Value.none Value.none Value.none Option.none Value.none Value.none 0)) (List.toArray ([])))
noncomputable def o_62 (P : Params) : Obj := (Obj.mk (Value.type "code") Option.none (Data.fields (List.toArray ((Value.str (Str.ofString "filemode") 267) :: (Value.str (Str.ofString "filemode") 268) :: (Value.str (Str.ofString "/claim/cut.py") 269) :: (Value.int 27 0) :: (Value.int 1 0) :: (Value.int 0 0) :: (Value.int 0 0) :: (Value.int 3 0) :: (Value.ref 62) :: (Value.bool Bool.true) :: (Value.int 181 0) :: (Value.ref 63) :: Value.none :: (Value.ref 64) :: (Value.ref 65) :: (Value.ref 66) :: (Value.int 276 0) :: (Value.int 27 0) :: (Value.str (Str.ofString "/claim/cut.py") 277) :: []))) (List.toArray ([])))
noncomputable def o_66 (P : Params) : Obj := (Obj.mk (Value.type "tuple") Option.none (Data.seq (List.toArray ((Value.str (Str.ofString "x") 284) :: (Value.str (Str.ofString "what") 285) :: (Value.str (Str.ofString "kind") 286) :: [])) 0) (List.toArray ([])))
noncomputable def o_68 (P : Params) : Obj := (Obj.mk Value.none Option.none (Data.func (fD (st 25) (Str.ofString "_plain_name") 0 ([]) Value.none Value.none Value.none Value.none Option.none Value.none Value.none 0)) (List.toArray ([])))
noncomputable def o_69 (P : Params) : Obj := (Obj.mk (Value.type "code") Option.none (Data.fields (List.toArray ((Value.str (Str.ofString "_plain_name") 281) :: (Value.str (Str.ofString "_plain_name") 282) :: (Value.str (Str.ofString "/claim/cut.py") 283) :: (Value.int 45 0) :: (Value.int 2 0) :: (Value.int 0 0) :: (Value.int 0 0) :: (Value.int 3 0) :: (Value.ref 69) :: (Value.bool Bool.true) :: (Value.int 181 0) :: (Value.ref 70) :: Value.none :: (Value.ref 71) :: (Value.ref 72) :: (Value.ref 73) :: (Value.int 287 0) :: (Value.int 45 0) :: (Value.str (Str.ofString "/claim/cut.py") 288) :: []))) (List.toArray ([])))
noncomputable def o_70 (P : Params) : Obj := (Obj.mk (Value.type "function") Option.none (Data.func (fD (st 25) (Str.ofString "_plain_name") 3 ([]) Value.none Value.none Value.none (Value.str (Str.ofString "os") 279) Option.none (Value.ref 74) Value.none 0)) (List.toArray ([])))
noncomputable def o_71 (P : Params) : Obj := (Obj.mk (Value.type "tuple") Option.none (Data.seq (List.toArray ((Value.type "type") :: [])) 0) (List.toArray ([])))
noncomputable def o_72 (P : Params) : Obj := (Obj.mk (Value.type "builtin_function_or_method") Option.none (Data.fields (List.toArray ((Value.builtin "type.__prepare__") :: (Value.type "type") :: []))) (List.toArray ([])))
noncomputable def o_73 (P : Params) : Obj := (Obj.mk (Value.type "dict") Option.none (Data.dict (List.toArray ((DictEntry.mk (PyData.keyHash P (Str.ofString "__module__")) (Value.str (Str.ofString "__module__") 299) (Value.str (Str.ofString "abc") 290)) :: (DictEntry.mk (PyData.keyHash P (Str.ofString "__qualname__")) (Value.str (Str.ofString "__qualname__") 301) (Value.str (Str.ofString "ABCMeta") 300)) :: (DictEntry.mk (PyData.keyHash P (Str.ofString "__firstlineno__")) (Value.str (Str.ofString "__firstlineno__") 303) (Value.int 51 302)) :: (DictEntry.mk (PyData.keyHash P (Str.ofString "register")) (Value.str (Str.ofString "register") 311) (Value.ref 89)) :: (DictEntry.mk (PyData.keyHash P (Str.ofString "__static_attributes__")) (Value.str (Str.ofString "__static_attributes__") 312) (Value.ref 90)) :: [])) 5) (List.toArray ([])))
noncomputable def o_75 (P : Params) : Obj := (Obj.mk Value.none Option.none (Data.fields (List.toArray ((Value.int 53 0) :: (Value.int 4 0) :: (Value.ref 88) :: []))) (List.toArray ([])))
noncomputable def o_76 (P : Params) : Obj := (Obj.mk (Value.type "code") Option.none (Data.fields (List.toArray ((Value.str (Str.ofString "ABCMeta") 294) :: (Value.str (Str.ofString "ABCMeta") 295) :: (Value.str (Str.ofString "/claim/cut.py") 296) :: (Value.int 51 0) :: (Value.int 0 0) :: (Value.int 0 0) :: (Value.int 0 0) :: (Value.int 0 0) :: (Value.ref 79) :: (Value.bool Bool.false) :: (Value.int 181 0) :: (Value.ref 80) :: Value.none :: Value.none :: Value.none :: Value.none :: (Value.int 297 0) :: (Value.int 51 0) :: (Value.str (Str.ofString "/claim/cut.py") 298) :: []))) (List.toArray ([])))
noncomputable def o_77 (P : Params) : Obj := (Obj.mk (Value.type "frame") Option.none Data.plain (List.toArray ((Option.some (Value.ref 81)) :: (Option.some (Value.ref 3)) :: (Option.some (Value.ref 78)) :: Option.none :: (Option.some (Value.str (Str.ofString "abc") 290)) :: Option.none :: (Option.some (Value.ref 0)) :: [])))
noncomputable def o_80 (P : Params) : Obj := (Obj.mk (Value.type "tuple") Option.none (Data.seq (List.toArray ((Value.str (Str.ofString "cls") 307) :: (Value.str (Str.ofString "subclass") 308) :: [])) 0) (List.toArray ([])))
noncomputable def o_82 (P : Params) : Obj := (Obj.mk Value.none Option.none (Data.func (fD (inB (st 27) 0) (Str.ofString "ABCMeta.register") 0 ([]) Value.none Value.none Value.none Value.none Option.none Value.none Value.none 0)) (List.toArray ([])))
noncomputable def o_83 (P : Params) : Obj := (Obj.mk (Value.type "code") Option.none (Data.fields (List.toArray ((Value.str (Str.ofString "register") 304) :: (Value.str (Str.ofString "ABCMeta.register") 305) :: (Value.str (Str.ofString "/claim/cut.py") 306) :: (Value.int 53 0) :: (Value.int 2 0) :: (Value.int 0 0) :: (Value.int 0 0) :: (Value.int 3 0) :: (Value.ref 83) :: (Value.bool Bool.true) :: (Value.int 181 0) :: (Value.ref 84) :: Value.none :: (Value.ref 85) :: (Value.ref 86) :: (Value.ref 87) :: (Value.int 309 0) :: (Value.int 53 0) :: (Value.str (Str.ofString "/claim/cut.py") 310) :: []))) (List.toArray ([])))
noncomputable def o_84 (P : Params) : Obj := (Obj.mk (Value.type "function") Option.none (Data.func (fD (inB (st 27) 0) (Str.ofString "ABCMeta.register") 3 ([]) Value.none Value.none Value.none (Value.str (Str.ofString "abc") 290) Option.none (Value.ref 88) Value.none 0)) (List.toArray ([])))
noncomputable def o_86 (P : Params) : Obj := (Obj.mk (Value.type "dict") Option.none (Data.dict (List.toArray ((DictEntry.mk (PyData.keyHash P (Str.ofString "__module__")) (Value.str (Str.ofString "__module__") 299) (Value.str (Str.ofString "abc") 290)) :: (DictEntry.mk (PyData.keyHash P (Str.ofString "__firstlineno__")) (Value.str (Str.ofString "__firstlineno__") 303) (Value.int 51 302)) :: (DictEntry.mk (PyData.keyHash P (Str.ofString "register")) (Value.str (Str.ofString "register") 311) (Value.ref 89)) :: (DictEntry.mk (PyData.keyHash P (Str.ofString "__static_attributes__")) (Value.str (Str.ofString "__static_attributes__") 312) (Value.ref 90)) :: (DictEntry.mk (PyData.keyHash P (Str.ofString "__doc__")) (Value.str (Str.ofString "__doc__") 313) Value.none) :: [])) 2) (List.toArray ([])))
noncomputable def o_93 (P : Params) : Obj := (Obj.mk (Value.type "type") Option.none (Data.cls (ClassData.mk (Str.ofString "ABCMeta") ((Value.type "type") :: []) ((Value.ref 92) :: (Value.type "type") :: (Value.type "object") :: []) 91 (Str.ofString "ABCMeta") Bool.true ([]) ((Value.ref 125) :: []) Bool.false Option.none Bool.false)) (List.toArray ((Option.some (Value.ref 76)) :: Option.none :: (Option.some (Value.str (Str.ofString "ABCMeta") 292)) :: (Option.some (Value.str (Str.ofString "ABCMeta") 300)) :: (Option.some (Value.builtin "type.__new__")) :: (Option.some (Value.bool Bool.true)) :: [])))
noncomputable def o_88 (P : Params) : Obj := (Obj.mk (Value.type "super") Option.none (Data.fields (List.toArray ((Value.ref 92) :: (Value.ref 92) :: (Value.ref 92) :: []))) (List.toArray ([])))
noncomputable def o_89 (P : Params) : Obj := (Obj.mk (Value.type "builtin_function_or_method") Option.none (Data.fields (List.toArray ((Value.builtin "object.__init_subclass__") :: (Value.ref 92) :: []))) (List.toArray ([])))
noncomputable def o_94 (P : Params) : Obj := (Obj.mk (Value.type "tuple") Option.none (Data.seq (List.toArray ((Value.ref 92) :: [])) 0) (List.toArray ([])))
noncomputable def o_96 (P : Params) : Obj := (Obj.mk (Value.type "dict") Option.none (Data.dict (List.toArray ((DictEntry.mk (PyData.keyHash P (Str.ofString "__module__")) (Value.str (Str.ofString "__module__") 325) (Value.str (Str.ofString "collections.abc") 316)) :: (DictEntry.mk (PyData.keyHash P (Str.ofString "__qualname__")) (Value.str (Str.ofString "__qualname__") 327) (Value.str (Str.ofString "_ABCLike") 326)) :: (DictEntry.mk (PyData.keyHash P (Str.ofString "__firstlineno__")) (Value.str (Str.ofString "__firstlineno__") 329) (Value.int 56 328)) :: (DictEntry.mk (PyData.keyHash P (Str.ofString "__instancecheck__")) (Value.str (Str.ofString "__instancecheck__") 338) (Value.ref 108)) :: (DictEntry.mk (PyData.keyHash P (Str.ofString "__subclasscheck__")) (Value.str (Str.ofString "__subclasscheck__") 346) (Value.ref 115)) :: (DictEntry.mk (PyData.keyHash P (Str.ofString "register")) (Value.str (Str.ofString "register") 354) (Value.ref 122)) :: (DictEntry.mk (PyData.keyHash P (Str.ofString "__static_attributes__")) (Value.str (Str.ofString "__static_attributes__") 355) (Value.ref 123)) :: [])) 7) (List.toArray ([])))
noncomputable def o_98 (P : Params) : Obj := (Obj.mk Value.none Option.none (Data.fields (List.toArray ((Value.int 58 0) :: (Value.int 4 0) :: (Value.ref 107) :: (Value.int 64 0) :: (Value.int 4 0) :: (Value.ref 114) :: (Value.int 69 0) :: (Value.int 4 0) :: (Value.ref 121) :: []))) (List.toArray ([])))
noncomputable def o_99 (P : Params) : Obj := (Obj.mk (Value.type "code") Option.none (Data.fields (List.toArray ((Value.str (Str.ofString "_ABCLike") 320) :: (Value.str (Str.ofString "_ABCLike") 321) :: (Value.str (Str.ofString "/claim/cut.py") 322) :: (Value.int 56 0) :: (Value.int 0 0) :: (Value.int 0 0) :: (Value.int 0 0) :: (Value.int 0 0) :: (Value.ref 98) :: (Value.bool Bool.false) :: (Value.int 181 0) :: (Value.ref 99) :: Value.none :: Value.none :: Value.none :: Value.none :: (Value.int 323 0) :: (Value.int 56 0) :: (Value.str (Str.ofString "/claim/cut.py") 324) :: []))) (List.toArray ([])))
noncomputable def o_100 (P : Params) : Obj := (Obj.mk (Value.type "frame") Option.none Data.plain (List.toArray ((Option.some (Value.ref 100)) :: (Option.some (Value.ref 3)) :: (Option.some (Value.ref 97)) :: Option.none :: (Option.some (Value.str (Str.ofString "collections.abc") 316)) :: Option.none :: (Option.some (Value.ref 0)) :: [])))
noncomputable def o_103 (P : Params) : Obj := (Obj.mk (Value.type "tuple") Option.none (Data.seq (List.toArray ((Value.str (Str.ofString "cls") 333) :: (Value.str (Str.ofString "\x69nstance") 334) :: (Value.str (Str.ofString "C") 335) :: [])) 0) (List.toArray ([])))
noncomputable def o_105 (P : Params) : Obj := (Obj.mk Value.none Option.none (Data.func (fD (inB (st 29) 0) (Str.ofString "_ABCLike.__instancecheck__") 0 ([]) Value.none Value.none Value.none Value.none Option.none Value.none Value.none 0)) (List.toArray ([])))
noncomputable def o_106 (P : Params) : Obj := (Obj.mk (Value.type "code") Option.none (Data.fields (List.toArray ((Value.str (Str.ofString "__instancecheck__") 330) :: (Value.str (Str.ofString "_ABCLike.__instancecheck__") 331) :: (Value.str (Str.ofString "/claim/cut.py") 332) :: (Value.int 58 0) :: (Value.int 2 0) :: (Value.int 0 0) :: (Value.int 0 0) :: (Value.int 3 0) :: (Value.ref 102) :: (Value.bool Bool.true) :: (Value.int 181 0) :: (Value.ref 103) :: Value.none :: (Value.ref 104) :: (Value.ref 105) :: (Value.ref 106) :: (Value.int 336 0) :: (Value.int 58 0) :: (Value.str (Str.ofString "/claim/cut.py") 337) :: []))) (List.toArray ([])))
noncomputable def o_107 (P : Params) : Obj := (Obj.mk (Value.type "function") Option.none (Data.func (fD (inB (st 29) 0) (Str.ofString "_ABCLike.__instancecheck__") 3 ([]) Value.none Value.none Value.none (Value.str (Str.ofString "collections.abc") 316) Option.none (Value.ref 107) Value.none 0)) (List.toArray ([])))
noncomputable def o_110 (P : Params) : Obj := (Obj.mk (Value.type "tuple") Option.none (Data.seq (List.toArray ((Value.str (Str.ofString "cls") 342) :: (Value.str (Str.ofString "C") 343) :: [])) 0) (List.toArray ([])))
noncomputable def o_112 (P : Params) : Obj := (Obj.mk Value.none Option.none (Data.func (fD (inB (st 29) 1) (Str.ofString "_ABCLike.__subclasscheck__") 0 ([]) Value.none Value.none Value.none Value.none Option.none Value.none Value.none 0)) (List.toArray ([])))
noncomputable def o_113 (P : Params) : Obj := (Obj.mk (Value.type "code") Option.none (Data.fields (List.toArray ((Value.str (Str.ofString "__subclasscheck__") 339) :: (Value.str (Str.ofString "_ABCLike.__subclasscheck__") 340) :: (Value.str (Str.ofString "/claim/cut.py") 341) :: (Value.int 64 0) :: (Value.int 2 0) :: (Value.int 0 0) :: (Value.int 0 0) :: (Value.int 3 0) :: (Value.ref 109) :: (Value.bool Bool.true) :: (Value.int 181 0) :: (Value.ref 110) :: Value.none :: (Value.ref 111) :: (Value.ref 112) :: (Value.ref 113) :: (Value.int 344 0) :: (Value.int 64 0) :: (Value.str (Str.ofString "/claim/cut.py") 345) :: []))) (List.toArray ([])))
noncomputable def o_114 (P : Params) : Obj := (Obj.mk (Value.type "function") Option.none (Data.func (fD (inB (st 29) 1) (Str.ofString "_ABCLike.__subclasscheck__") 3 ([]) Value.none Value.none Value.none (Value.str (Str.ofString "collections.abc") 316) Option.none (Value.ref 114) Value.none 0)) (List.toArray ([])))
noncomputable def o_117 (P : Params) : Obj := (Obj.mk (Value.type "tuple") Option.none (Data.seq (List.toArray ((Value.str (Str.ofString "cls") 350) :: (Value.str (Str.ofString "subclass") 351) :: [])) 0) (List.toArray ([])))
noncomputable def o_119 (P : Params) : Obj := (Obj.mk Value.none Option.none (Data.func (fD (inB (st 29) 2) (Str.ofString "_ABCLike.register") 0 ([]) Value.none Value.none Value.none Value.none Option.none Value.none Value.none 0)) (List.toArray ([])))
noncomputable def o_120 (P : Params) : Obj := (Obj.mk (Value.type "code") Option.none (Data.fields (List.toArray ((Value.str (Str.ofString "register") 347) :: (Value.str (Str.ofString "_ABCLike.register") 348) :: (Value.str (Str.ofString "/claim/cut.py") 349) :: (Value.int 69 0) :: (Value.int 2 0) :: (Value.int 0 0) :: (Value.int 0 0) :: (Value.int 3 0) :: (Value.ref 116) :: (Value.bool Bool.true) :: (Value.int 181 0) :: (Value.ref 117) :: Value.none :: (Value.ref 118) :: (Value.ref 119) :: (Value.ref 120) :: (Value.int 352 0) :: (Value.int 69 0) :: (Value.str (Str.ofString "/claim/cut.py") 353) :: []))) (List.toArray ([])))
noncomputable def o_121 (P : Params) : Obj := (Obj.mk (Value.type "function") Option.none (Data.func (fD (inB (st 29) 2) (Str.ofString "_ABCLike.register") 3 ([]) Value.none Value.none Value.none (Value.str (Str.ofString "collections.abc") 316) Option.none (Value.ref 121) Value.none 0)) (List.toArray ([])))
noncomputable def o_123 (P : Params) : Obj := (Obj.mk (Value.type "dict") Option.none (Data.dict (List.toArray ((DictEntry.mk (PyData.keyHash P (Str.ofString "__module__")) (Value.str (Str.ofString "__module__") 325) (Value.str (Str.ofString "collections.abc") 316)) :: (DictEntry.mk (PyData.keyHash P (Str.ofString "__firstlineno__")) (Value.str (Str.ofString "__firstlineno__") 329) (Value.int 56 328)) :: (DictEntry.mk (PyData.keyHash P (Str.ofString "__instancecheck__")) (Value.str (Str.ofString "__instancecheck__") 338) (Value.ref 108)) :: (DictEntry.mk (PyData.keyHash P (Str.ofString "__subclasscheck__")) (Value.str (Str.ofString "__subclasscheck__") 346) (Value.ref 115)) :: (DictEntry.mk (PyData.keyHash P (Str.ofString "register")) (Value.str (Str.ofString "register") 354) (Value.ref 122)) :: (DictEntry.mk (PyData.keyHash P (Str.ofString "__static_attributes__")) (Value.str (Str.ofString "__static_attributes__") 355) (Value.ref 123)) :: (DictEntry.mk (PyData.keyHash P (Str.ofString "__doc__")) (Value.str (Str.ofString "__doc__") 356) Value.none) :: [])) 2) (List.toArray ([])))
noncomputable def o_124 (P : Params) : Obj := (Obj.mk (Value.type "type") Option.none (Data.cls (ClassData.mk (Str.ofString "_ABCLike") ((Value.ref 92) :: []) ((Value.ref 125) :: (Value.ref 92) :: (Value.type "type") :: (Value.type "object") :: []) 124 (Str.ofString "_ABCLike") Bool.true ([]) ([]) Bool.false Option.none Bool.false)) (List.toArray ((Option.some (Value.ref 95)) :: Option.none :: (Option.some (Value.str (Str.ofString "_ABCLike") 318)) :: (Option.some (Value.str (Str.ofString "_ABCLike") 326)) :: (Option.some (Value.builtin "type.__new__")) :: (Option.some (Value.bool Bool.true)) :: [])))
noncomputable def o_125 (P : Params) : Obj := (Obj.mk (Value.type "super") Option.none (Data.fields (List.toArray ((Value.ref 125) :: (Value.ref 125) :: (Value.ref 125) :: []))) (List.toArray ([])))
noncomputable def o_126 (P : Params) : Obj := (Obj.mk (Value.type "builtin_function_or_method") Option.none (Data.fields (List.toArray ((Value.builtin "object.__init_subclass__") :: (Value.ref 125) :: []))) (List.toArray ([])))
noncomputable def o_129 (P : Params) : Obj := (Obj.mk (Value.type "tuple") Option.none (Data.seq (List.toArray ((Value.str (Str.ofString "C") 362) :: [])) 0) (List.toArray ([])))
noncomputable def o_131 (P : Params) : Obj := (Obj.mk Value.none Option.none (Data.func (fD (st 30) (Str.ofString "_abc_plain_meta") 0 ([]) Value.none Value.none Value.none Value.none Option.none Value.none Value.none 0)) (List.toArray ([])))
noncomputable def o_132 (P : Params) : Obj := (Obj.mk (Value.type "code") Option.none (Data.fields (List.toArray ((Value.str (Str.ofString "_abc_plain_meta") 359) :: (Value.str (Str.ofString "_abc_plain_meta") 360) :: (Value.str (Str.ofString "/claim/cut.py") 361) :: (Value.int 71 0) :: (Value.int 1 0) :: (Value.int 0 0) :: (Value.int 0 0) :: (Value.int 3 0) :: (Value.ref 128) :: (Value.bool Bool.true) :: (Value.int 181 0) :: (Value.ref 129) :: Value.none :: (Value.ref 130) :: (Value.ref 131) :: (Value.ref 132) :: (Value.int 363 0) :: (Value.int 71 0) :: (Value.str (Str.ofString "/claim/cut.py") 364) :: []))) (List.toArray ([])))
noncomputable def o_133 (P : Params) : Obj := (Obj.mk (Value.type "function") Option.none (Data.func (fD (st 30) (Str.ofString "_abc_plain_meta") 3 ([]) Value.none Value.none Value.none (Value.str (Str.ofString "collections.abc") 316) Option.none (Value.ref 133) Value.none 0)) (List.toArray ([])))
noncomputable def o_136 (P : Params) : Obj := (Obj.mk (Value.type "tuple") Option.none (Data.seq (List.toArray ((Value.str (Str.ofString "path") 371) :: (Value.str (Str.ofString "kind") 372) :: (Value.str (Str.ofString "hook") 373) :: (Value.str (Str.ofString "given") 374) :: [])) 0) (List.toArray ([])))
noncomputable def o_138 (P : Params) : Obj := (Obj.mk Value.none Option.none (Data.func (fD (st 32) (Str.ofString "fspath") 0 ([]) Value.none Value.none Value.none Value.none Option.none Value.none Value.none 0)) (List.toArray ([])))
noncomputable def o_139 (P : Params) : Obj := (Obj.mk (Value.type "code") Option.none (Data.fields (List.toArray ((Value.str (Str.ofString "fspath") 368) :: (Value.str (Str.ofString "fspath") 369) :: (Value.str (Str.ofString "/claim/cut.py") 370) :: (Value.int 75 0) :: (Value.int 1 0) :: (Value.int 0 0) :: (Value.int 0 0) :: (Value.int 3 0) :: (Value.ref 135) :: (Value.bool Bool.true) :: (Value.int 181 0) :: (Value.ref 136) :: Value.none :: (Value.ref 137) :: (Value.ref 138) :: (Value.ref 139) :: (Value.int 375 0) :: (Value.int 75 0) :: (Value.str (Str.ofString "/claim/cut.py") 376) :: []))) (List.toArray ([])))
noncomputable def o_146 (P : Params) : Obj := (Obj.mk (Value.type "tuple") Option.none (Data.seq (List.toArray ((Value.str (Str.ofString "funcname") 383) :: (Value.str (Str.ofString "args") 384) :: (Value.str (Str.ofString "hasstr") 385) :: (Value.str (Str.ofString "hasbytes") 386) :: (Value.str (Str.ofString "s") 387) :: [])) 0) (List.toArray ([])))
noncomputable def o_148 (P : Params) : Obj := (Obj.mk Value.none Option.none (Data.func (fD (st 34) (Str.ofString "_check_arg_types") 0 ([]) Value.none Value.none Value.none Value.none Option.none Value.none Value.none 0)) (List.toArray ([])))
noncomputable def o_149 (P : Params) : Obj := (Obj.mk (Value.type "code") Option.none (Data.fields (List.toArray ((Value.str (Str.ofString "_check_arg_types") 380) :: (Value.str (Str.ofString "_check_arg_types") 381) :: (Value.str (Str.ofString "/claim/cut.py") 382) :: (Value.int 92 0) :: (Value.int 1 0) :: (Value.int 0 0) :: (Value.int 0 0) :: (Value.int 7 0) :: (Value.ref 142) :: (Value.bool Bool.true) :: (Value.int 181 0) :: (Value.ref 143) :: Value.none :: (Value.ref 144) :: (Value.ref 145) :: (Value.ref 146) :: (Value.int 388 0) :: (Value.int 92 0) :: (Value.str (Str.ofString "/claim/cut.py") 389) :: []))) (List.toArray ([])))
noncomputable def o_150 (P : Params) : Obj := (Obj.mk (Value.type "function") Option.none (Data.func (fD (st 34) (Str.ofString "_check_arg_types") 3 ([]) Value.none Value.none Value.none (Value.str (Str.ofString "cpy313.genericpath") 378) Option.none (Value.ref 147) Value.none 0)) (List.toArray ([])))
noncomputable def o_153 (P : Params) : Obj := (Obj.mk (Value.type "tuple") Option.none (Data.seq (List.toArray ((Value.str (Str.ofString "path") 396) :: [])) 0) (List.toArray ([])))
noncomputable def o_155 (P : Params) : Obj := (Obj.mk Value.none Option.none (Data.func (fD (st 36) (Str.ofString "_get_sep") 0 ([]) Value.none Value.none Value.none Value.none Option.none Value.none Value.none 0)) (List.toArray ([])))
noncomputable def o_156 (P : Params) : Obj := (Obj.mk (Value.type "code") Option.none (Data.fields (List.toArray ((Value.str (Str.ofString "_get_sep") 393) :: (Value.str (Str.ofString "_get_sep") 394) :: (Value.str (Str.ofString "/claim/cut.py") 395) :: (Value.int 104 0) :: (Value.int 1 0) :: (Value.int 0 0) :: (Value.int 0 0) :: (Value.int 3 0) :: (Value.ref 149) :: (Value.bool Bool.true) :: (Value.int 181 0) :: (Value.ref 150) :: Value.none :: (Value.ref 151) :: (Value.ref 152) :: (Value.ref 153) :: (Value.int 397 0) :: (Value.int 104 0) :: (Value.str (Str.ofString "/claim/cut.py") 398) :: []))) (List.toArray ([])))
noncomputable def o_160 (P : Params) : Obj := (Obj.mk (Value.type "tuple") Option.none (Data.seq (List.toArray ((Value.str (Str.ofString "a") 403) :: (Value.str (Str.ofString "p") 404) :: (Value.str (Str.ofString "sep") 405) :: (Value.str (Str.ofString "path") 406) :: (Value.str (Str.ofString "b") 407) :: [])) 0) (List.toArray ([])))
noncomputable def o_162 (P : Params) : Obj := (Obj.mk Value.none Option.none (Data.func (fD (st 37) (Str.ofString "join") 0 ([]) Value.none Value.none Value.none Value.none Option.none Value.none Value.none 0)) (List.toArray ([])))
noncomputable def o_163 (P : Params) : Obj := (Obj.mk (Value.type "code") Option.none (Data.fields (List.toArray ((Value.str (Str.ofString "join") 400) :: (Value.str (Str.ofString "join") 401) :: (Value.str (Str.ofString "/claim/cut.py") 402) :: (Value.int 109 0) :: (Value.int 1 0) :: (Value.int 0 0) :: (Value.int 0 0) :: (Value.int 7 0) :: (Value.ref 156) :: (Value.bool Bool.true) :: (Value.int 181 0) :: (Value.ref 157) :: Value.none :: (Value.ref 158) :: (Value.ref 159) :: (Value.ref 160) :: (Value.int 408 0) :: (Value.int 109 0) :: (Value.str (Str.ofString "/claim/cut.py") 409) :: []))) (List.toArray ([])))
noncomputable def o_167 (P : Params) : Obj := (Obj.mk Value.none Option.none (Data.func (fD (st 38) (Str.ofString "commonpath") 0 ([]) Value.none Value.none Value.none Value.none Option.none Value.none Value.none 0)) (List.toArray ([])))
noncomputable def o_168 (P : Params) : Obj := (Obj.mk (Value.type "code") Option.none (Data.fields (List.toArray ((Value.str (Str.ofString "commonpath") 411) :: (Value.str (Str.ofString "commonpath") 412) :: (Value.str (Str.ofString "/claim/cut.py") 413) :: (Value.int 126 0) :: (Value.int 1 0) :: (Value.int 0 0) :: (Value.int 0 0) :: (Value.int 3 0) :: (Value.ref 163) :: (Value.bool Bool.true) :: (Value.int 181 0) :: (Value.ref 164) :: Value.none :: Value.none :: Value.none :: (Value.ref 165) :: (Value.int 414 0) :: (Value.int 126 0) :: (Value.str (Str.ofString "/claim/cut.py") 415) :: []))) (List.toArray ([])))
noncomputable def o_177 (P : Params) : Obj := (Obj.mk (Value.type "tuple") Option.none (Data.seq (List.toArray ((Value.type "ValueError") :: [])) 0) (List.toArray ([])))
noncomputable def o_179 (P : Params) : Obj := (Obj.mk (Value.type "dict") Option.none (Data.dict (List.toArray ((DictEntry.mk (PyData.keyHash P (Str.ofString "__module__")) (Value.str (Str.ofString "__module__") 478) (Value.str (Str.ofString "cpy313.tomllib._parser") 424)) :: (DictEntry.mk (PyData.keyHash P (Str.ofString "__qualname__")) (Value.str (Str.ofString "__qualname__") 480) (Value.str (Str.ofString "TOMLDecodeError") 479)) :: (DictEntry.mk (PyData.keyHash P (Str.ofString "__firstlineno__")) (Value.str (Str.ofString "__firstlineno__") 482) (Value.int 159 481)) :: (DictEntry.mk (PyData.keyHash P (Str.ofString "__static_attributes__")) (Value.str (Str.ofString "__static_attributes__") 483) (Value.ref 179)) :: [])) 4) (List.toArray ([])))
noncomputable def o_182 (P : Params) : Obj := (Obj.mk (Value.type "code") Option.none (Data.fields (List.toArray ((Value.str (Str.ofString "TOMLDecodeError") 473) :: (Value.str (Str.ofString "TOMLDecodeError") 474) :: (Value.str (Str.ofString "/claim/cut.py") 475) :: (Value.int 159 0) :: (Value.int 0 0) :: (Value.int 0 0) :: (Value.int 0 0) :: (Value.int 0 0) :: (Value.ref 175) :: (Value.bool Bool.false) :: (Value.int 181 0) :: (Value.ref 176) :: Value.none :: Value.none :: Value.none :: Value.none :: (Value.int 476 0) :: (Value.int 159 0) :: (Value.str (Str.ofString "/claim/cut.py") 477) :: []))) (List.toArray ([])))
noncomputable def o_183 (P : Params) : Obj := (Obj.mk (Value.type "frame") Option.none Data.plain (List.toArray ((Option.some (Value.ref 177)) :: (Option.some (Value.ref 3)) :: (Option.some (Value.ref 174)) :: Option.none :: (Option.some (Value.str (Str.ofString "cpy313.tomllib._parser") 424)) :: Option.none :: (Option.some (Value.ref 0)) :: [])))
noncomputable def o_186 (P : Params) : Obj := (Obj.mk (Value.type "type") Option.none (Data.cls (ClassData.mk (Str.ofString "TOMLDecodeError") ((Value.type "ValueError") :: []) ((Value.ref 181) :: (Value.type "ValueError") :: (Value.type "Exception") :: (Value.type "BaseException") :: (Value.type "object") :: []) 180 (Str.ofString "TOMLDecodeError") Bool.true ([]) ([]) Bool.false Option.none Bool.false)) (List.toArray ((Option.some (Value.ref 172)) :: Option.none :: (Option.some (Value.str (Str.ofString "TOMLDecodeError") 471)) :: (Option.some (Value.str (Str.ofString "TOMLDecodeError") 479)) :: (Option.some (Value.builtin "ValueError.__new__")) :: (Option.some (Value.bool Bool.true)) :: [])))
noncomputable def o_187 (P : Params) : Obj := (Obj.mk (Value.type "getset_descriptor") Option.none (Data.fields (List.toArray ((Value.str (Str.ofString "__weakref__") 484) :: (Value.ref 181) :: (Value.builtin "ExceptionGroup.__weakref__") :: Value.none :: []))) (List.toArray ([])))
noncomputable def o_188 (P : Params) : Obj := (Obj.mk (Value.type "super") Option.none (Data.fields (List.toArray ((Value.ref 181) :: (Value.ref 181) :: (Value.ref 181) :: []))) (List.toArray ([])))
noncomputable def o_189 (P : Params) : Obj := (Obj.mk (Value.type "builtin_function_or_method") Option.none (Data.fields (List.toArray ((Value.builtin "object.__init_subclass__") :: (Value.ref 181) :: []))) (List.toArray ([])))
noncomputable def o_192 (P : Params) : Obj := (Obj.mk (Value.type "tuple") Option.none (Data.seq (List.toArray ((Value.str (Str.ofString "src") 492) :: (Value.str (Str.ofString "pos") 493) :: (Value.str (Str.ofString "expect") 494) :: (Value.str (Str.ofString "error_on") 495) :: (Value.str (Str.ofString "error_on_eof") 496) :: (Value.str (Str.ofString "new_pos") 497) :: [])) 0) (List.toArray ([])))
noncomputable def o_194 (P : Params) : Obj := (Obj.mk Value.none Option.none (Data.func (fD (st 44) (Str.ofString "skip_until") 0 ([]) Value.none Value.none Value.none Value.none Option.none Value.none Value.none 0)) (List.toArray ([])))
noncomputable def o_195 (P : Params) : Obj := (Obj.mk (Value.type "code") Option.none (Data.fields (List.toArray ((Value.str (Str.ofString "skip_until") 489) :: (Value.str (Str.ofString "skip_until") 490) :: (Value.str (Str.ofString "/claim/cut.py") 491) :: (Value.int 161 0) :: (Value.int 3 0) :: (Value.int 0 0) :: (Value.int 2 0) :: (Value.int 3 0) :: (Value.ref 185) :: (Value.bool Bool.true) :: (Value.int 181 0) :: (Value.ref 186) :: Value.none :: (Value.ref 187) :: (Value.ref 188) :: (Value.ref 189) :: (Value.int 498 0) :: (Value.int 161 0) :: (Value.str (Str.ofString "/claim/cut.py") 499) :: []))) (List.toArray ([])))
noncomputable def o_199 (P : Params) : Obj := (Obj.mk (Value.type "tuple") Option.none (Data.seq (List.toArray ((Value.str (Str.ofString "src") 504) :: (Value.str (Str.ofString "pos") 505) :: (Value.str (Str.ofString "hex_len") 506) :: (Value.str (Str.ofString "hex_str") 507) :: (Value.str (Str.ofString "hex_int") 508) :: [])) 0) (List.toArray ([])))
noncomputable def o_201 (P : Params) : Obj := (Obj.mk Value.none Option.none (Data.func (fD (st 45) (Str.ofString "parse_hex_char") 0 ([]) Value.none Value.none Value.none Value.none Option.none Value.none Value.none 0)) (List.toArray ([])))
noncomputable def o_202 (P : Params) : Obj := (Obj.mk (Value.type "code") Option.none (Data.fields (List.toArray ((Value.str (Str.ofString "parse_hex_char") 501) :: (Value.str (Str.ofString "parse_hex_char") 502) :: (Value.str (Str.ofString "/claim/cut.py") 503) :: (Value.int 173 0) :: (Value.int 3 0) :: (Value.int 0 0) :: (Value.int 0 0) :: (Value.int 3 0) :: (Value.ref 192) :: (Value.bool Bool.true) :: (Value.int 181 0) :: (Value.ref 193) :: Value.none :: (Value.ref 194) :: (Value.ref 195) :: (Value.ref 196) :: (Value.int 509 0) :: (Value.int 173 0) :: (Value.str (Str.ofString "/claim/cut.py") 510) :: []))) (List.toArray ([])))
noncomputable def o_206 (P : Params) : Obj := (Obj.mk (Value.type "tuple") Option.none (Data.seq (List.toArray ((Value.str (Str.ofString "src") 515) :: (Value.str (Str.ofString "pos") 516) :: (Value.str (Str.ofString "msg") 517) :: (Value.str (Str.ofString "coord_repr") 518) :: [])) 0) (List.toArray ([])))
noncomputable def o_208 (P : Params) : Obj := (Obj.mk Value.none Option.none (Data.func (fD (st 46) (Str.ofString "suffixed_err") 0 ([]) Value.none Value.none Value.none Value.none Option.none Value.none Value.none 0)) (List.toArray ([])))
noncomputable def o_213 (P : Params) : Obj := (Obj.mk (Value.type "tuple") Option.none (Data.seq (List.toArray ((Value.str (Str.ofString "codepoint") 525) :: [])) 0) (List.toArray ([])))
noncomputable def o_215 (P : Params) : Obj := (Obj.mk Value.none Option.none (Data.func (fD (st 47) (Str.ofString "is_unicode_scalar_value") 0 ([]) Value.none Value.none Value.none Value.none Option.none Value.none Value.none 0)) (List.toArray ([])))
noncomputable def o_216 (P : Params) : Obj := (Obj.mk (Value.type "code") Option.none (Data.fields (List.toArray ((Value.str (Str.ofString "is_unicode_scalar_value") 522) :: (Value.str (Str.ofString "is_unicode_scalar_value") 523) :: (Value.str (Str.ofString "/claim/cut.py") 524) :: (Value.int 194 0) :: (Value.int 1 0) :: (Value.int 0 0) :: (Value.int 0 0) :: (Value.int 3 0) :: (Value.ref 206) :: (Value.bool Bool.true) :: (Value.int 181 0) :: (Value.ref 207) :: Value.none :: (Value.ref 208) :: (Value.ref 209) :: (Value.ref 210) :: (Value.int 526 0) :: (Value.int 194 0) :: (Value.str (Str.ofString "/claim/cut.py") 527) :: []))) (List.toArray ([])))
noncomputable def o_220 (P : Params) : Obj := (Obj.mk (Value.type "tuple") Option.none (Data.seq (List.toArray ((Value.str (Str.ofString "mode") 534) :: (Value.str (Str.ofString "signs") 535) :: (Value.str (Str.ofString "k") 536) :: (Value.str (Str.ofString "figure") 537) :: (Value.str (Str.ofString "two") 538) :: [])) 0) (List.toArray ([])))
noncomputable def o_222 (P : Params) : Obj := (Obj.mk Value.none Option.none (Data.func (fD (st 49) (Str.ofString "_law_signs") 0 ([]) Value.none Value.none Value.none Value.none Option.none Value.none Value.none 0)) (List.toArray ([])))
noncomputable def o_223 (P : Params) : Obj := (Obj.mk (Value.type "code") Option.none (Data.fields (List.toArray ((Value.str (Str.ofString "_law_signs") 531) :: (Value.str (Str.ofString "_law_signs") 532) :: (Value.str (Str.ofString "/claim/cut.py") 533) :: (Value.int 197 0) :: (Value.int 1 0) :: (Value.int 0 0) :: (Value.int 0 0) :: (Value.int 3 0) :: (Value.ref 213) :: (Value.bool Bool.true) :: (Value.int 181 0) :: (Value.ref 214) :: Value.none :: (Value.ref 215) :: (Value.ref 216) :: (Value.ref 217) :: (Value.int 539 0) :: (Value.int 197 0) :: (Value.str (Str.ofString "/claim/cut.py") 540) :: []))) (List.toArray ([])))
noncomputable def o_227 (P : Params) : Obj := (Obj.mk Value.none Option.none (Data.func (fD (st 50) (Str.ofString "_law_figures") 0 ([]) Value.none Value.none Value.none Value.none Option.none Value.none Value.none 0)) (List.toArray ([])))
noncomputable def o_228 (P : Params) : Obj := (Obj.mk (Value.type "code") Option.none (Data.fields (List.toArray ((Value.str (Str.ofString "_law_figures") 542) :: (Value.str (Str.ofString "_law_figures") 543) :: (Value.str (Str.ofString "/claim/cut.py") 544) :: (Value.int 208 0) :: (Value.int 1 0) :: (Value.int 0 0) :: (Value.int 0 0) :: (Value.int 3 0) :: (Value.ref 220) :: (Value.bool Bool.true) :: (Value.int 181 0) :: (Value.ref 221) :: Value.none :: Value.none :: Value.none :: (Value.ref 222) :: (Value.int 545 0) :: (Value.int 208 0) :: (Value.str (Str.ofString "/claim/cut.py") 546) :: []))) (List.toArray ([])))
noncomputable def o_235 (P : Params) : Obj := (Obj.mk (Value.type "tuple") Option.none (Data.seq (List.toArray ((Value.str (Str.ofString "names") 551) :: (Value.str (Str.ofString "row") 552) :: (Value.str (Str.ofString "ends") 553) :: (Value.str (Str.ofString "rest") 554) :: (Value.str (Str.ofString "k") 555) :: [])) 0) (List.toArray ([])))
noncomputable def o_237 (P : Params) : Obj := (Obj.mk Value.none Option.none (Data.func (fD (st 51) (Str.ofString "_law_ends") 0 ([]) Value.none Value.none Value.none Value.none Option.none Value.none Value.none 0)) (List.toArray ([])))
noncomputable def o_238 (P : Params) : Obj := (Obj.mk (Value.type "code") Option.none (Data.fields (List.toArray ((Value.str (Str.ofString "_law_ends") 548) :: (Value.str (Str.ofString "_law_ends") 549) :: (Value.str (Str.ofString "/claim/cut.py") 550) :: (Value.int 210 0) :: (Value.int 2 0) :: (Value.int 0 0) :: (Value.int 0 0) :: (Value.int 3 0) :: (Value.ref 225) :: (Value.bool Bool.true) :: (Value.int 181 0) :: (Value.ref 226) :: Value.none :: (Value.ref 227) :: (Value.ref 228) :: (Value.ref 229) :: (Value.int 556 0) :: (Value.int 210 0) :: (Value.str (Str.ofString "/claim/cut.py") 557) :: []))) (List.toArray ([])))
noncomputable def o_242 (P : Params) : Obj := (Obj.mk (Value.type "tuple") Option.none (Data.seq (List.toArray ((Value.str (Str.ofString "ends") 562) :: (Value.str (Str.ofString "step") 563) :: [])) 0) (List.toArray ([])))
noncomputable def o_244 (P : Params) : Obj := (Obj.mk Value.none Option.none (Data.func (fD (st 52) (Str.ofString "_law_period") 0 ([]) Value.none Value.none Value.none Value.none Option.none Value.none Value.none 0)) (List.toArray ([])))
noncomputable def o_245 (P : Params) : Obj := (Obj.mk (Value.type "code") Option.none (Data.fields (List.toArray ((Value.str (Str.ofString "_law_period") 559) :: (Value.str (Str.ofString "_law_period") 560) :: (Value.str (Str.ofString "/claim/cut.py") 561) :: (Value.int 217 0) :: (Value.int 1 0) :: (Value.int 0 0) :: (Value.int 0 0) :: (Value.int 3 0) :: (Value.ref 232) :: (Value.bool Bool.true) :: (Value.int 181 0) :: (Value.ref 233) :: Value.none :: (Value.ref 234) :: (Value.ref 235) :: (Value.ref 236) :: (Value.int 564 0) :: (Value.int 217 0) :: (Value.str (Str.ofString "/claim/cut.py") 565) :: []))) (List.toArray ([])))
noncomputable def o_249 (P : Params) : Obj := (Obj.mk (Value.type "tuple") Option.none (Data.seq (List.toArray ((Value.str (Str.ofString "text") 570) :: (Value.str (Str.ofString "first") 571) :: (Value.str (Str.ofString "behind") 572) :: (Value.str (Str.ofString "step") 573) :: (Value.str (Str.ofString "piece") 574) :: [])) 0) (List.toArray ([])))
noncomputable def o_251 (P : Params) : Obj := (Obj.mk Value.none Option.none (Data.func (fD (st 53) (Str.ofString "_law_again") 0 ([]) Value.none Value.none Value.none Value.none Option.none Value.none Value.none 0)) (List.toArray ([])))
noncomputable def o_252 (P : Params) : Obj := (Obj.mk (Value.type "code") Option.none (Data.fields (List.toArray ((Value.str (Str.ofString "_law_again") 567) :: (Value.str (Str.ofString "_law_again") 568) :: (Value.str (Str.ofString "/claim/cut.py") 569) :: (Value.int 222 0) :: (Value.int 4 0) :: (Value.int 0 0) :: (Value.int 0 0) :: (Value.int 3 0) :: (Value.ref 239) :: (Value.bool Bool.true) :: (Value.int 181 0) :: (Value.ref 240) :: Value.none :: (Value.ref 241) :: (Value.ref 242) :: (Value.ref 243) :: (Value.int 575 0) :: (Value.int 222 0) :: (Value.str (Str.ofString "/claim/cut.py") 576) :: []))) (List.toArray ([])))
noncomputable def o_256 (P : Params) : Obj := (Obj.mk (Value.type "tuple") Option.none (Data.seq (List.toArray ((Value.str (Str.ofString "text") 581) :: (Value.str (Str.ofString "cut") 582) :: (Value.str (Str.ofString "step") 583) :: [])) 0) (List.toArray ([])))
noncomputable def o_258 (P : Params) : Obj := (Obj.mk Value.none Option.none (Data.func (fD (st 54) (Str.ofString "_law_across") 0 ([]) Value.none Value.none Value.none Value.none Option.none Value.none Value.none 0)) (List.toArray ([])))
noncomputable def o_259 (P : Params) : Obj := (Obj.mk (Value.type "code") Option.none (Data.fields (List.toArray ((Value.str (Str.ofString "_law_across") 578) :: (Value.str (Str.ofString "_law_across") 579) :: (Value.str (Str.ofString "/claim/cut.py") 580) :: (Value.int 230 0) :: (Value.int 2 0) :: (Value.int 0 0) :: (Value.int 0 0) :: (Value.int 3 0) :: (Value.ref 246) :: (Value.bool Bool.true) :: (Value.int 181 0) :: (Value.ref 247) :: Value.none :: (Value.ref 248) :: (Value.ref 249) :: (Value.ref 250) :: (Value.int 584 0) :: (Value.int 230 0) :: (Value.str (Str.ofString "/claim/cut.py") 585) :: []))) (List.toArray ([])))
noncomputable def o_263 (P : Params) : Obj := (Obj.mk Value.none Option.none (Data.func (fD (st 55) (Str.ofString "law") 0 ([]) Value.none Value.none Value.none Value.none Option.none Value.none Value.none 0)) (List.toArray ([])))
noncomputable def o_264 (P : Params) : Obj := (Obj.mk (Value.type "code") Option.none (Data.fields (List.toArray ((Value.str (Str.ofString "law") 587) :: (Value.str (Str.ofString "law") 588) :: (Value.str (Str.ofString "/claim/cut.py") 589) :: (Value.int 235 0) :: (Value.int 1 0) :: (Value.int 0 0) :: (Value.int 0 0) :: (Value.int 3 0) :: (Value.ref 253) :: (Value.bool Bool.true) :: (Value.int 181 0) :: (Value.ref 254) :: Value.none :: Value.none :: Value.none :: (Value.ref 255) :: (Value.int 590 0) :: (Value.int 235 0) :: (Value.str (Str.ofString "/claim/cut.py") 591) :: []))) (List.toArray ([])))
noncomputable def o_142 (P : Params) : Obj := (Obj.mk (Value.type "dict") Option.none (Data.dict (List.toArray ((DictEntry.mk (PyData.keyHash P (Str.ofString "__name__")) (Value.str (Str.ofString "__name__") 165) (Value.str (Str.ofString "cpy313.tomllib._parser") 424)) :: (DictEntry.mk (PyData.keyHash P (Str.ofString "__doc__")) (Value.str (Str.ofString "__doc__") 166) Value.none) :: (DictEntry.mk (PyData.keyHash P (Str.ofString "__package__")) (Value.str (Str.ofString "__package__") 167) Value.none) :: (DictEntry.mk (PyData.keyHash P (Str.ofString "__loader__")) (Value.str (Str.ofString "__loader__") 168) (Value.builtin "__main__.__loader__#opaque")) :: (DictEntry.mk (PyData.keyHash P (Str.ofString "__spec__")) (Value.str (Str.ofString "__spec__") 169) Value.none) :: (DictEntry.mk (PyData.keyHash P (Str.ofString "__annotations__")) (Value.str (Str.ofString "__annotations__") 170) (Value.ref 6)) :: (DictEntry.mk (PyData.keyHash P (Str.ofString "__builtins__")) (Value.str (Str.ofString "__builtins__") 171) (Value.ref 4)) :: (DictEntry.mk (PyData.keyHash P (Str.ofString "__file__")) (Value.str (Str.ofString "__file__") 173) (Value.str (Str.ofString "/claim/cut.py") 172)) :: (DictEntry.mk (PyData.keyHash P (Str.ofString "__cached__")) (Value.str (Str.ofString "__cached__") 174) Value.none) :: (DictEntry.mk (PyData.keyHash P (Str.ofString "_wall")) (Value.str (Str.ofString "_wall") 193) (Value.ref 21)) :: (DictEntry.mk (PyData.keyHash P (Str.ofString "S_IFMT")) (Value.str (Str.ofString "S_IFMT") 202) (Value.ref 28)) :: (DictEntry.mk (PyData.keyHash P (Str.ofString "S_IFDIR")) (Value.str (Str.ofString "S_IFDIR") 204) (Value.int 16384 203)) :: (DictEntry.mk (PyData.keyHash P (Str.ofString "S_IFCHR")) (Value.str (Str.ofString "S_IFCHR") 206) (Value.int 8192 205)) :: (DictEntry.mk (PyData.keyHash P (Str.ofString "S_IFBLK")) (Value.str (Str.ofString "S_IFBLK") 208) (Value.int 24576 207)) :: (DictEntry.mk (PyData.keyHash P (Str.ofString "S_IFREG")) (Value.str (Str.ofString "S_IFREG") 210) (Value.int 32768 209)) :: (DictEntry.mk (PyData.keyHash P (Str.ofString "S_IFIFO")) (Value.str (Str.ofString "S_IFIFO") 212) (Value.int 4096 211)) :: (DictEntry.mk (PyData.keyHash P (Str.ofString "S_IFLNK")) (Value.str (Str.ofString "S_IFLNK") 214) (Value.int 40960 213)) :: (DictEntry.mk (PyData.keyHash P (Str.ofString "S_IFSOCK")) (Value.str (Str.ofString "S_IFSOCK") 216) (Value.int 49152 215)) :: (DictEntry.mk (PyData.keyHash P (Str.ofString "S_ISUID")) (Value.str (Str.ofString "S_ISUID") 218) (Value.int 2048 217)) :: (DictEntry.mk (PyData.keyHash P (Str.ofString "S_ISGID")) (Value.str (Str.ofString "S_ISGID") 220) (Value.int 1024 219)) :: (DictEntry.mk (PyData.keyHash P (Str.ofString "S_ISVTX")) (Value.str (Str.ofString "S_ISVTX") 222) (Value.int 512 221)) :: (DictEntry.mk (PyData.keyHash P (Str.ofString "S_IRUSR")) (Value.str (Str.ofString "S_IRUSR") 224) (Value.int 256 223)) :: (DictEntry.mk (PyData.keyHash P (Str.ofString "S_IWUSR")) (Value.str (Str.ofString "S_IWUSR") 226) (Value.int 128 225)) :: (DictEntry.mk (PyData.keyHash P (Str.ofString "S_IXUSR")) (Value.str (Str.ofString "S_IXUSR") 228) (Value.int 64 227)) :: (DictEntry.mk (PyData.keyHash P (Str.ofString "S_IRGRP")) (Value.str (Str.ofString "S_IRGRP") 230) (Value.int 32 229)) :: (DictEntry.mk (PyData.keyHash P (Str.ofString "S_IWGRP")) (Value.str (Str.ofString "S_IWGRP") 232) (Value.int 16 231)) :: (DictEntry.mk (PyData.keyHash P (Str.ofString "S_IXGRP")) (Value.str (Str.ofString "S_IXGRP") 234) (Value.int 8 233)) :: (DictEntry.mk (PyData.keyHash P (Str.ofString "S_IROTH")) (Value.str (Str.ofString "S_IROTH") 236) (Value.int 4 235)) :: (DictEntry.mk (PyData.keyHash P (Str.ofString "S_IWOTH")) (Value.str (Str.ofString "S_IWOTH") 238) (Value.int 2 237)) :: (DictEntry.mk (PyData.keyHash P (Str.ofString "S_IXOTH")) (Value.str (Str.ofString "S_IXOTH") 240) (Value.int 1 239)) :: (DictEntry.mk (PyData.keyHash P (Str.ofString "_filemode_table")) (Value.str (Str.ofString "_filemode_table") 266) (Value.ref 61)) :: (DictEntry.mk (PyData.keyHash P (Str.ofString "filemode")) (Value.str (Str.ofString "filemode") 278) (Value.ref 68)) :: (DictEntry.mk (PyData.keyHash P (Str.ofString "_plain_name")) (Value.str (Str.ofString "_plain_name") 289) (Value.ref 75)) :: (DictEntry.mk (PyData.keyHash P (Str.ofString "ABCMeta")) (Value.str (Str.ofString "ABCMeta") 315) (Value.ref 92)) :: (DictEntry.mk (PyData.keyHash P (Str.ofString "_ABCLike")) (Value.str (Str.ofString "_ABCLike") 358) (Value.ref 125)) :: (DictEntry.mk (PyData.keyHash P (Str.ofString "_abc_plain_meta")) (Value.str (Str.ofString "_abc_plain_meta") 365) (Value.ref 134)) :: (DictEntry.mk (PyData.keyHash P (Str.ofString "fspath")) (Value.str (Str.ofString "fspath") 377) (Value.ref 141)) :: (DictEntry.mk (PyData.keyHash P (Str.ofString "_check_arg_types")) (Value.str (Str.ofString "_check_arg_types") 390) (Value.ref 148)) :: (DictEntry.mk (PyData.keyHash P (Str.ofString "_get_sep")) (Value.str (Str.ofString "_get_sep") 399) (Value.ref 155)) :: (DictEntry.mk (PyData.keyHash P (Str.ofString "join")) (Value.str (Str.ofString "join") 410) (Value.ref 162)) :: (DictEntry.mk (PyData.keyHash P (Str.ofString "commonpath")) (Value.str (Str.ofString "commonpath") 416) (Value.ref 167)) :: (DictEntry.mk (PyData.keyHash P (Str.ofString "digits")) (Value.str (Str.ofString "digits") 418) (Value.str (Str.ofString "0123456789") 417)) :: (DictEntry.mk (PyData.keyHash P (Str.ofString "hexdigits")) (Value.str (Str.ofString "hexdigits") 423) (Value.str (Str.ofString "0123456789abcdefABCDEF") 422)) :: (DictEntry.mk (PyData.keyHash P (Str.ofString "HEXDIGIT_CHARS")) (Value.str (Str.ofString "HEXDIGIT_CHARS") 470) (Value.ref 168)) :: [])) 44) (List.toArray ([])))
noncomputable def o_143 (P : Params) : Obj := (Obj.mk Value.none Option.none (Data.fields (List.toArray ((Value.int 1 0) :: (Value.int 0 0) :: (Value.ref 20) :: (Value.int 5 0) :: (Value.int 0 0) :: (Value.ref 27) :: (Value.int 27 0) :: (Value.int 0 0) :: (Value.ref 67) :: (Value.int 45 0) :: (Value.int 0 0) :: (Value.ref 74) :: (Value.int 51 0) :: (Value.int 0 0) :: (Value.ref 81) :: (Value.int 56 0) :: (Value.int 0 0) :: (Value.ref 100) :: (Value.int 71 0) :: (Value.int 0 0) :: (Value.ref 133) :: (Value.int 75 0) :: (Value.int 0 0) :: (Value.ref 140) :: (Value.int 92 0) :: (Value.int 0 0) :: (Value.ref 147) :: (Value.int 104 0) :: (Value.int 0 0) :: (Value.ref 154) :: (Value.int 109 0) :: (Value.int 0 0) :: (Value.ref 161) :: (Value.int 126 0) :: (Value.int 0 0) :: (Value.ref 166) :: []))) (List.toArray ([])))
noncomputable def p_142 (P : Params) : Obj := (Obj.mk (Value.type "dict") Option.none (Data.dict (List.toArray ((DictEntry.mk (PyData.keyHash P (Str.ofString "__name__")) (Value.str (Str.ofString "__name__") 165) (Value.str (Str.ofString "cpy313.tomllib._parser") 424)) :: (DictEntry.mk (PyData.keyHash P (Str.ofString "__doc__")) (Value.str (Str.ofString "__doc__") 166) Value.none) :: (DictEntry.mk (PyData.keyHash P (Str.ofString "__package__")) (Value.str (Str.ofString "__package__") 167) Value.none) :: (DictEntry.mk (PyData.keyHash P (Str.ofString "__loader__")) (Value.str (Str.ofString "__loader__") 168) (Value.builtin "__main__.__loader__#opaque")) :: (DictEntry.mk (PyData.keyHash P (Str.ofString "__spec__")) (Value.str (Str.ofString "__spec__") 169) Value.none) :: (DictEntry.mk (PyData.keyHash P (Str.ofString "__annotations__")) (Value.str (Str.ofString "__annotations__") 170) (Value.ref 6)) :: (DictEntry.mk (PyData.keyHash P (Str.ofString "__builtins__")) (Value.str (Str.ofString "__builtins__") 171) (Value.ref 4)) :: (DictEntry.mk (PyData.keyHash P (Str.ofString "__file__")) (Value.str (Str.ofString "__file__") 173) (Value.str (Str.ofString "/claim/cut.py") 172)) :: (DictEntry.mk (PyData.keyHash P (Str.ofString "__cached__")) (Value.str (Str.ofString "__cached__") 174) Value.none) :: (DictEntry.mk (PyData.keyHash P (Str.ofString "_wall")) (Value.str (Str.ofString "_wall") 193) (Value.ref 21)) :: (DictEntry.mk (PyData.keyHash P (Str.ofString "S_IFMT")) (Value.str (Str.ofString "S_IFMT") 202) (Value.ref 28)) :: (DictEntry.mk (PyData.keyHash P (Str.ofString "S_IFDIR")) (Value.str (Str.ofString "S_IFDIR") 204) (Value.int 16384 203)) :: (DictEntry.mk (PyData.keyHash P (Str.ofString "S_IFCHR")) (Value.str (Str.ofString "S_IFCHR") 206) (Value.int 8192 205)) :: (DictEntry.mk (PyData.keyHash P (Str.ofString "S_IFBLK")) (Value.str (Str.ofString "S_IFBLK") 208) (Value.int 24576 207)) :: (DictEntry.mk (PyData.keyHash P (Str.ofString "S_IFREG")) (Value.str (Str.ofString "S_IFREG") 210) (Value.int 32768 209)) :: (DictEntry.mk (PyData.keyHash P (Str.ofString "S_IFIFO")) (Value.str (Str.ofString "S_IFIFO") 212) (Value.int 4096 211)) :: (DictEntry.mk (PyData.keyHash P (Str.ofString "S_IFLNK")) (Value.str (Str.ofString "S_IFLNK") 214) (Value.int 40960 213)) :: (DictEntry.mk (PyData.keyHash P (Str.ofString "S_IFSOCK")) (Value.str (Str.ofString "S_IFSOCK") 216) (Value.int 49152 215)) :: (DictEntry.mk (PyData.keyHash P (Str.ofString "S_ISUID")) (Value.str (Str.ofString "S_ISUID") 218) (Value.int 2048 217)) :: (DictEntry.mk (PyData.keyHash P (Str.ofString "S_ISGID")) (Value.str (Str.ofString "S_ISGID") 220) (Value.int 1024 219)) :: (DictEntry.mk (PyData.keyHash P (Str.ofString "S_ISVTX")) (Value.str (Str.ofString "S_ISVTX") 222) (Value.int 512 221)) :: (DictEntry.mk (PyData.keyHash P (Str.ofString "S_IRUSR")) (Value.str (Str.ofString "S_IRUSR") 224) (Value.int 256 223)) :: (DictEntry.mk (PyData.keyHash P (Str.ofString "S_IWUSR")) (Value.str (Str.ofString "S_IWUSR") 226) (Value.int 128 225)) :: (DictEntry.mk (PyData.keyHash P (Str.ofString "S_IXUSR")) (Value.str (Str.ofString "S_IXUSR") 228) (Value.int 64 227)) :: (DictEntry.mk (PyData.keyHash P (Str.ofString "S_IRGRP")) (Value.str (Str.ofString "S_IRGRP") 230) (Value.int 32 229)) :: (DictEntry.mk (PyData.keyHash P (Str.ofString "S_IWGRP")) (Value.str (Str.ofString "S_IWGRP") 232) (Value.int 16 231)) :: (DictEntry.mk (PyData.keyHash P (Str.ofString "S_IXGRP")) (Value.str (Str.ofString "S_IXGRP") 234) (Value.int 8 233)) :: (DictEntry.mk (PyData.keyHash P (Str.ofString "S_IROTH")) (Value.str (Str.ofString "S_IROTH") 236) (Value.int 4 235)) :: (DictEntry.mk (PyData.keyHash P (Str.ofString "S_IWOTH")) (Value.str (Str.ofString "S_IWOTH") 238) (Value.int 2 237)) :: (DictEntry.mk (PyData.keyHash P (Str.ofString "S_IXOTH")) (Value.str (Str.ofString "S_IXOTH") 240) (Value.int 1 239)) :: (DictEntry.mk (PyData.keyHash P (Str.ofString "_filemode_table")) (Value.str (Str.ofString "_filemode_table") 266) (Value.ref 61)) :: (DictEntry.mk (PyData.keyHash P (Str.ofString "filemode")) (Value.str (Str.ofString "filemode") 278) (Value.ref 68)) :: (DictEntry.mk (PyData.keyHash P (Str.ofString "_plain_name")) (Value.str (Str.ofString "_plain_name") 289) (Value.ref 75)) :: (DictEntry.mk (PyData.keyHash P (Str.ofString "ABCMeta")) (Value.str (Str.ofString "ABCMeta") 315) (Value.ref 92)) :: (DictEntry.mk (PyData.keyHash P (Str.ofString "_ABCLike")) (Value.str (Str.ofString "_ABCLike") 358) (Value.ref 125)) :: (DictEntry.mk (PyData.keyHash P (Str.ofString "_abc_plain_meta")) (Value.str (Str.ofString "_abc_plain_meta") 365) (Value.ref 134)) :: (DictEntry.mk (PyData.keyHash P (Str.ofString "fspath")) (Value.str (Str.ofString "fspath") 377) (Value.ref 141)) :: (DictEntry.mk (PyData.keyHash P (Str.ofString "_check_arg_types")) (Value.str (Str.ofString "_check_arg_types") 390) (Value.ref 148)) :: (DictEntry.mk (PyData.keyHash P (Str.ofString "_get_sep")) (Value.str (Str.ofString "_get_sep") 399) (Value.ref 155)) :: (DictEntry.mk (PyData.keyHash P (Str.ofString "join")) (Value.str (Str.ofString "join") 410) (Value.ref 162)) :: (DictEntry.mk (PyData.keyHash P (Str.ofString "commonpath")) (Value.str (Str.ofString "commonpath") 416) (Value.ref 167)) :: (DictEntry.mk (PyData.keyHash P (Str.ofString "digits")) (Value.str (Str.ofString "digits") 418) (Value.str (Str.ofString "0123456789") 417)) :: (DictEntry.mk (PyData.keyHash P (Str.ofString "hexdigits")) (Value.str (Str.ofString "hexdigits") 423) (Value.str (Str.ofString "0123456789abcdefABCDEF") 422)) :: [])) 43) (List.toArray ([])))
end suf
open suf
noncomputable def tA (P : Params) : BT := (.node (boot_o_0 P) (.node (boot_o_1 P) (.node (boot_o_3 P) (.node (boot_o_7 P) .nil .nil) (.node (o_1 P) .nil .nil)) (.node (boot_o_5 P) (.node (boot_o_9 P) .nil .nil) (.node (o_3 P) .nil .nil))) (.node (boot_o_2 P) (.node (boot_o_4 P) (.node (boot_o_8 P) .nil .nil) (.node (o_8 P) .nil .nil)) (.node (boot_o_6 P) (.node (boot_o_10 P) .nil .nil) (.node (o_4 P) .nil .nil))))
noncomputable def tB (P : Params) : BT := (.node (boot_o_0 P) (.node (boot_o_1 P) (.node (p_142 P) (.node (boot_o_7 P) (.node (o_1 P) (.node (o_23 P) (.node (o_8 P) (.node (o_126 P) .nil .nil) .nil) (.node (o_94 P) (.node (o_1 P) .nil .nil) .nil)) (.node (o_39 P) (.node (o_1 P) (.node (o_8 P) .nil .nil) .nil) (.node (o_110 P) .nil .nil))) (.node (o_8 P) (.node (o_31 P) (.node (o_66 P) (.node (o_1 P) .nil .nil) .nil) (.node (o_8 P) (.node (o_169 P) .nil .nil) .nil)) (.node (o_47 P) (.node (o_82 P) (.node (o_153 P) .nil .nil) .nil) (.node (o_1 P) .nil .nil)))) (.node (o_1 P) (.node (o_11 P) (.node (o_27 P) (.node (o_62 P) (.node (o_1 P) .nil .nil) .nil) (.node (o_98 P) (.node (o_1 P) .nil .nil) .nil)) (.node (o_43 P) (.node (o_1 P) (.node (o_149 P) .nil .nil) .nil) (.node (o_114 P) .nil .nil))) (.node (o_19 P) (.node (o_35 P) (.node (o_70 P) (.node (o_138 P) .nil .nil) .nil) (.node (o_106 P) .nil .nil)) (.node (o_51 P) (.node (o_86 P) (.node (o_157 P) .nil .nil) .nil) (.node (o_1 P) .nil .nil))))) (.node (boot_o_5 P) (.node (boot_o_9 P) (.node (o_9 P) (.node (o_25 P) (.node (o_1 P) (.node (o_8 P) .nil .nil) .nil) (.node (o_96 P) (.node (o_163 P) .nil .nil) .nil)) (.node (o_41 P) (.node (o_76 P) (.node (o_1 P) .nil .nil) .nil) (.node (o_112 P) .nil .nil))) (.node (o_1 P) (.node (o_33 P) (.node (o_68 P) (.node (o_136 P) .nil .nil) .nil) (.node (o_1 P) .nil .nil)) (.node (o_49 P) (.node (o_84 P) (.node (o_155 P) .nil .nil) .nil) (.node (o_120 P) .nil .nil)))) (.node (o_3 P) (.node (o_13 P) (.node (o_29 P) (.node (o_1 P) (.node (o_132 P) .nil .nil) .nil) (.node (o_100 P) (.node (o_167 P) .nil .nil) .nil)) (.node (o_45 P) (.node (o_80 P) (.node (o_1 P) .nil .nil) .nil) (.node (o_8 P) .nil .nil))) (.node (o_21 P) (.node (o_37 P) (.node (o_72 P) (.node (o_140 P) .nil .nil) .nil) (.node (o_1 P) .nil .nil)) (.node (o_53 P) (.node (o_88 P) (.node (o_8 P) .nil .nil) .nil) (.node (o_124 P) .nil .nil)))))) (.node (boot_o_2 P) (.node (boot_o_4 P) (.node (boot_o_8 P) (.node (o_8 P) (.node (o_24 P) (.node (o_59 P) (.node (o_1 P) .nil .nil) .nil) (.node (o_72 P) (.node (o_162 P) .nil .nil) .nil)) (.node (o_40 P) (.node (o_75 P) (.node (o_146 P) .nil .nil) .nil) (.node (o_1 P) .nil .nil))) (.node (o_16 P) (.node (o_32 P) (.node (o_1 P) (.node (o_8 P) .nil .nil) .nil) (.node (o_103 P) .nil .nil)) (.node (o_48 P) (.node (o_83 P) (.node (o_1 P) .nil .nil) .nil) (.node (o_119 P) .nil .nil)))) (.node (o_143 P) (.node (o_12 P) (.node (o_28 P) (.node (o_63 P) (.node (o_131 P) .nil .nil) .nil) (.node (o_99 P) (.node (o_8 P) .nil .nil) .nil)) (.node (o_44 P) (.node (o_8 P) (.node (o_150 P) .nil .nil) .nil) (.node (o_1 P) .nil .nil))) (.node (o_20 P) (.node (o_36 P) (.node (o_71 P) (.node (o_139 P) .nil .nil) .nil) (.node (o_107 P) .nil .nil)) (.node (o_52 P) (.node (o_93 P) (.node (o_1 P) .nil .nil) .nil) (.node (o_123 P) .nil .nil))))) (.node (boot_o_6 P) (.node (boot_o_10 P) (.node (o_1 P) (.node (o_26 P) (.node (o_61 P) (.node (o_129 P) .nil .nil) .nil) (.node (o_1 P) (.node (o_164 P) .nil .nil) .nil)) (.node (o_42 P) (.node (o_77 P) (.node (o_148 P) .nil .nil) .nil) (.node (o_113 P) .nil .nil))) (.node (o_18 P) (.node (o_34 P) (.node (o_69 P) (.node (o_1 P) .nil .nil) .nil) (.node (o_105 P) .nil .nil)) (.node (o_50 P) (.node (o_1 P) (.node (o_156 P) .nil .nil) .nil) (.node (o_121 P) .nil .nil)))) (.node (o_4 P) (.node (o_1 P) (.node (o_30 P) (.node (o_8 P) (.node (o_133 P) .nil .nil) .nil) (.node (o_1 P) (.node (o_168 P) .nil .nil) .nil)) (.node (o_46 P) (.node (o_1 P) (.node (o_8 P) .nil .nil) .nil) (.node (o_117 P) .nil .nil))) (.node (o_22 P) (.node (o_38 P) (.node (o_73 P) (.node (o_1 P) .nil .nil) .nil) (.node (o_8 P) .nil .nil)) (.node (o_1 P) (.node (o_89 P) (.node (o_160 P) .nil .nil) .nil) (.node (o_125 P) .nil .nil)))))))
noncomputable def tC (P : Params) : BT := (.node (boot_o_0 P) (.node (boot_o_1 P) (.node (o_142 P) (.node (boot_o_7 P) (.node (o_1 P) (.node (o_23 P) (.node (o_8 P) (.node (o_126 P) .nil .nil) .nil) (.node (o_94 P) (.node (o_1 P) .nil .nil) .nil)) (.node (o_39 P) (.node (o_1 P) (.node (o_8 P) .nil .nil) .nil) (.node (o_110 P) .nil .nil))) (.node (o_8 P) (.node (o_31 P) (.node (o_66 P) (.node (o_1 P) .nil .nil) .nil) (.node (o_8 P) (.node (o_169 P) .nil .nil) .nil)) (.node (o_47 P) (.node (o_82 P) (.node (o_153 P) .nil .nil) .nil) (.node (o_1 P) .nil .nil)))) (.node (o_1 P) (.node (o_11 P) (.node (o_27 P) (.node (o_62 P) (.node (o_1 P) .nil .nil) .nil) (.node (o_98 P) (.node (o_1 P) .nil .nil) .nil)) (.node (o_43 P) (.node (o_1 P) (.node (o_149 P) .nil .nil) .nil) (.node (o_114 P) .nil .nil))) (.node (o_19 P) (.node (o_35 P) (.node (o_70 P) (.node (o_138 P) .nil .nil) .nil) (.node (o_106 P) (.node (boot_o_0 P) .nil .nil) .nil)) (.node (o_51 P) (.node (o_86 P) (.node (o_157 P) .nil .nil) .nil) (.node (o_1 P) .nil .nil))))) (.node (boot_o_5 P) (.node (boot_o_9 P) (.node (o_9 P) (.node (o_25 P) (.node (o_1 P) (.node (o_8 P) .nil .nil) .nil) (.node (o_96 P) (.node (o_163 P) .nil .nil) .nil)) (.node (o_41 P) (.node (o_76 P) (.node (o_1 P) .nil .nil) .nil) (.node (o_112 P) .nil .nil))) (.node (o_1 P) (.node (o_33 P) (.node (o_68 P) (.node (o_136 P) .nil .nil) .nil) (.node (o_1 P) (.node (boot_o_0 P) .nil .nil) .nil)) (.node (o_49 P) (.node (o_84 P) (.node (o_155 P) .nil .nil) .nil) (.node (o_120 P) .nil .nil)))) (.node (o_3 P) (.node (o_13 P) (.node (o_29 P) (.node (o_1 P) (.node (o_132 P) .nil .nil) .nil) (.node (o_100 P) (.node (o_167 P) .nil .nil) .nil)) (.node (o_45 P) (.node (o_80 P) (.node (o_1 P) .nil .nil) .nil) (.node (o_8 P) .nil .nil))) (.node (o_21 P) (.node (o_37 P) (.node (o_72 P) (.node (o_140 P) .nil .nil) .nil) (.node (o_1 P) .nil .nil)) (.node (o_53 P) (.node (o_88 P) (.node (o_8 P) .nil .nil) .nil) (.node (o_124 P) .nil .nil)))))) (.node (boot_o_2 P) (.node (boot_o_4 P) (.node (boot_o_8 P) (.node (o_8 P) (.node (o_24 P) (.node (o_59 P) (.node (o_1 P) .nil .nil) .nil) (.node (o_72 P) (.node (o_162 P) .nil .nil) .nil)) (.node (o_40 P) (.node (o_75 P) (.node (o_146 P) .nil .nil) .nil) (.node (o_1 P) .nil .nil))) (.node (o_16 P) (.node (o_32 P) (.node (o_1 P) (.node (o_8 P) .nil .nil) .nil) (.node (o_103 P) (.node (boot_o_0 P) .nil .nil) .nil)) (.node (o_48 P) (.node (o_83 P) (.node (o_1 P) .nil .nil) .nil) (.node (o_119 P) .nil .nil)))) (.node (o_143 P) (.node (o_12 P) (.node (o_28 P) (.node (o_63 P) (.node (o_131 P) .nil .nil) .nil) (.node (o_99 P) (.node (o_8 P) .nil .nil) .nil)) (.node (o_44 P) (.node (o_8 P) (.node (o_150 P) .nil .nil) .nil) (.node (o_1 P) .nil .nil))) (.node (o_20 P) (.node (o_36 P) (.node (o_71 P) (.node (o_139 P) .nil .nil) .nil) (.node (o_107 P) .nil .nil)) (.node (o_52 P) (.node (o_93 P) (.node (o_1 P) .nil .nil) .nil) (.node (o_123 P) .nil .nil))))) (.node (boot_o_6 P) (.node (boot_o_10 P) (.node (o_1 P) (.node (o_26 P) (.node (o_61 P) (.node (o_129 P) .nil .nil) .nil) (.node (o_1 P) (.node (o_164 P) .nil .nil) .nil)) (.node (o_42 P) (.node (o_77 P) (.node (o_148 P) .nil .nil) .nil) (.node (o_113 P) .nil .nil))) (.node (o_18 P) (.node (o_34 P) (.node (o_69 P) (.node (o_1 P) .nil .nil) .nil) (.node (o_105 P) (.node (boot_o_0 P) .nil .nil) .nil)) (.node (o_50 P) (.node (o_1 P) (.node (o_156 P) .nil .nil) .nil) (.node (o_121 P) .nil .nil)))) (.node (o_4 P) (.node (o_1 P) (.node (o_30 P) (.node (o_8 P) (.node (o_133 P) .nil .nil) .nil) (.node (o_1 P) (.node (o_168 P) .nil .nil) .nil)) (.node (o_46 P) (.node (o_1 P) (.node (o_8 P) .nil .nil) .nil) (.node (o_117 P) .nil .nil))) (.node (o_22 P) (.node (o_38 P) (.node (o_73 P) (.node (o_1 P) .nil .nil) .nil) (.node (o_8 P) .nil .nil)) (.node (o_1 P) (.node (o_89 P) (.node (o_160 P) .nil .nil) .nil) (.node (o_125 P) .nil .nil)))))))
noncomputable def tD (P : Params) : BT := (.node (boot_o_0 P) (.node (boot_o_1 P) (.node (o_231 P) (.node (boot_o_7 P) (.node (o_1 P) (.node (o_23 P) (.node (o_8 P) (.node (o_126 P) (.node (o_263 P) .nil .nil) .nil) (.node (o_196 P) .nil .nil)) (.node (o_94 P) (.node (o_1 P) .nil .nil) (.node (o_228 P) .nil .nil))) (.node (o_39 P) (.node (o_1 P) (.node (o_8 P) .nil .nil) (.node (o_8 P) .nil .nil)) (.node (o_110 P) (.node (o_1 P) .nil .nil) (.node (o_1 P) .nil .nil)))) (.node (o_8 P) (.node (o_31 P) (.node (o_66 P) (.node (o_1 P) .nil .nil) (.node (o_1 P) .nil .nil)) (.node (o_8 P) (.node (o_169 P) .nil .nil) (.node (o_239 P) .nil .nil))) (.node (o_47 P) (.node (o_82 P) (.node (o_153 P) .nil .nil) (.node (o_220 P) .nil .nil)) (.node (o_1 P) (.node (o_188 P) .nil .nil) (.node (o_8 P) .nil .nil))))) (.node (o_1 P) (.node (o_11 P) (.node (o_27 P) (.node (o_62 P) (.node (o_1 P) .nil .nil) (.node (o_1 P) .nil .nil)) (.node (o_98 P) (.node (o_1 P) .nil .nil) (.node (o_235 P) .nil .nil))) (.node (o_43 P) (.node (o_1 P) (.node (o_149 P) .nil .nil) (.node (o_216 P) .nil .nil)) (.node (o_114 P) (.node (o_1 P) .nil .nil) (.node (o_251 P) .nil .nil)))) (.node (o_19 P) (.node (o_35 P) (.node (o_70 P) (.node (o_138 P) .nil .nil) (.node (o_208 P) .nil .nil)) (.node (o_106 P) (.node (boot_o_0 P) .nil .nil) (.node (o_1 P) .nil .nil))) (.node (o_51 P) (.node (o_86 P) (.node (o_157 P) .nil .nil) (.node (o_224 P) .nil .nil)) (.node (o_1 P) (.node (o_192 P) .nil .nil) (.node (o_259 P) .nil .nil)))))) (.node (boot_o_5 P) (.node (boot_o_9 P) (.node (o_9 P) (.node (o_25 P) (.node (o_1 P) (.node (o_8 P) (.node (o_265 P) .nil .nil) .nil) (.node (o_8 P) .nil .nil)) (.node (o_96 P) (.node (o_163 P) .nil .nil) (.node (o_1 P) .nil .nil))) (.node (o_41 P) (.node (o_76 P) (.node (o_1 P) .nil .nil) (.node (o_1 P) .nil .nil)) (.node (o_112 P) (.node (o_182 P) .nil .nil) (.node (o_249 P) .nil .nil)))) (.node (o_1 P) (.node (o_33 P) (.node (o_68 P) (.node (o_136 P) .nil .nil) (.node (o_206 P) .nil .nil)) (.node (o_1 P) (.node (boot_o_0 P) .nil .nil) (.node (o_8 P) .nil .nil))) (.node (o_49 P) (.node (o_84 P) (.node (o_155 P) .nil .nil) (.node (o_222 P) .nil .nil)) (.node (o_120 P) (.node (o_1 P) .nil .nil) (.node (o_1 P) .nil .nil))))) (.node (o_3 P) (.node (o_13 P) (.node (o_29 P) (.node (o_1 P) (.node (o_132 P) .nil .nil) (.node (o_202 P) .nil .nil)) (.node (o_100 P) (.node (o_167 P) .nil .nil) (.node (o_237 P) .nil .nil))) (.node (o_45 P) (.node (o_80 P) (.node (o_1 P) .nil .nil) (.node (o_1 P) .nil .nil)) (.node (o_8 P) (.node (o_186 P) .nil .nil) (.node (o_253 P) .nil .nil)))) (.node (o_21 P) (.node (o_37 P) (.node (o_72 P) (.node (o_140 P) .nil .nil) (.node (o_210 P) .nil .nil)) (.node (o_1 P) (.node (o_72 P) .nil .nil) (.node (o_245 P) .nil .nil))) (.node (o_53 P) (.node (o_88 P) (.node (o_8 P) .nil .nil) (.node (o_8 P) .nil .nil)) (.node (o_124 P) (.node (o_194 P) .nil .nil) (.node (o_1 P) .nil .nil))))))) (.node (boot_o_2 P) (.node (boot_o_4 P) (.node (boot_o_8 P) (.node (o_8 P) (.node (o_24 P) (.node (o_59 P) (.node (o_1 P) (.node (o_264 P) .nil .nil) .nil) (.node (o_1 P) .nil .nil)) (.node (o_72 P) (.node (o_162 P) .nil .nil) (.node (o_229 P) .nil .nil))) (.node (o_40 P) (.node (o_75 P) (.node (o_146 P) .nil .nil) (.node (o_213 P) .nil .nil)) (.node (o_1 P) (.node (o_8 P) .nil .nil) (.node (o_8 P) .nil .nil)))) (.node (o_16 P) (.node (o_32 P) (.node (o_1 P) (.node (o_8 P) .nil .nil) (.node (o_8 P) .nil .nil)) (.node (o_103 P) (.node (boot_o_0 P) .nil .nil) (.node (o_1 P) .nil .nil))) (.node (o_48 P) (.node (o_83 P) (.node (o_1 P) .nil .nil) (.node (o_1 P) .nil .nil)) (.node (o_119 P) (.node (o_189 P) .nil .nil) (.node (o_256 P) .nil .nil))))) (.node (o_232 P) (.node (o_12 P) (.node (o_28 P) (.node (o_63 P) (.node (o_131 P) .nil .nil) (.node (o_201 P) .nil .nil)) (.node (o_99 P) (.node (o_8 P) .nil .nil) (.node (o_1 P) .nil .nil))) (.node (o_44 P) (.node (o_8 P) (.node (o_150 P) .nil .nil) (.node (o_217 P) .nil .nil)) (.node (o_1 P) (.node (o_185 P) .nil .nil) (.node (o_252 P) .nil .nil)))) (.node (o_20 P) (.node (o_36 P) (.node (o_71 P) (.node (o_139 P) .nil .nil) (.node (o_209 P) .nil .nil)) (.node (o_107 P) (.node (o_177 P) .nil .nil) (.node (o_244 P) .nil .nil))) (.node (o_52 P) (.node (o_93 P) (.node (o_1 P) .nil .nil) (.node (o_1 P) .nil .nil)) (.node (o_123 P) (.node (o_1 P) .nil .nil) (.node (o_260 P) .nil .nil)))))) (.node (boot_o_6 P) (.node (boot_o_10 P) (.node (o_1 P) (.node (o_26 P) (.node (o_61 P) (.node (o_129 P) .nil .nil) (.node (o_199 P) .nil .nil)) (.node (o_1 P) (.node (o_164 P) .nil .nil) (.node (o_8 P) .nil .nil))) (.node (o_42 P) (.node (o_77 P) (.node (o_148 P) .nil .nil) (.node (o_215 P) .nil .nil)) (.node (o_113 P) (.node (o_183 P) .nil .nil) (.node (o_1 P) .nil .nil)))) (.node (o_18 P) (.node (o_34 P) (.node (o_69 P) (.node (o_1 P) .nil .nil) (.node (o_1 P) .nil .nil)) (.node (o_105 P) (.node (boot_o_0 P) .nil .nil) (.node (o_242 P) .nil .nil))) (.node (o_50 P) (.node (o_1 P) (.node (o_156 P) .nil .nil) (.node (o_223 P) .nil .nil)) (.node (o_121 P) (.node (o_8 P) .nil .nil) (.node (o_258 P) .nil .nil))))) (.node (o_4 P) (.node (o_1 P) (.node (o_30 P) (.node (o_8 P) (.node (o_133 P) .nil .nil) (.node (o_203 P) .nil .nil)) (.node (o_1 P) (.node (o_168 P) .nil .nil) (.node (o_238 P) .nil .nil))) (.node (o_46 P) (.node (o_1 P) (.node (o_8 P) .nil .nil) (.node (o_8 P) .nil .nil)) (.node (o_117 P) (.node (o_187 P) .nil .nil) (.node (o_1 P) .nil .nil)))) (.node (o_22 P) (.node (o_38 P) (.node (o_73 P) (.node (o_1 P) .nil .nil) (.node (o_1 P) .nil .nil)) (.node (o_8 P) (.node (o_179 P) .nil .nil) (.node (o_246 P) .nil .nil))) (.node (o_1 P) (.node (o_89 P) (.node (o_160 P) .nil .nil) (.node (o_227 P) .nil .nil)) (.node (o_125 P) (.node (o_195 P) .nil .nil) (.node (o_8 P) .nil .nil))))))))
end Mine
end
section
open PySem PySem.W PyProof.Rows
namespace Mine
open suf
noncomputable def put4 (t : BT) (x y z u : Obj) : BT := (((t.set 168 fun _ => x).set 169 fun _ => y).set 170 fun _ => z).set 171 fun _ => u
noncomputable abbrev BB : List Frame := [topFrame { line := 0, col := 0, endLine := 0, endCol := 0 }]
noncomputable abbrev annF : Option Value := some (Value.ref 6)
noncomputable abbrev pos0 : Pos := { line := 0, col := 0, endLine := 0, endCol := 0 }
noncomputable abbrev pos41 : Pos := { line := 157, col := 0, endLine := 157, endCol := 8 }
noncomputable abbrev pos42 : Pos := { line := 158, col := 0, endLine := 158, endCol := 14 }
noncomputable abbrev posE : Pos := { line := 235, col := 0, endLine := 258, endCol := 60 }
noncomputable def env1 : Env := { scope := pwF.main.scope, locals := mainNs, globals := mainNs, cells := [], code := .ref 13, frame := some 14 }
noncomputable def Sb (w : World) (os : OsState) : SharedT := { tree := tA w.params, n := 15, life := { }, gens := { toList := [] }, drawn := { }, toks := 187, os := os }
noncomputable def S168 (w : World) (os : OsState) : SharedT := { tree := tB w.params, n := 168, life := { }, gens := { toList := [] }, drawn := { }, toks := 426, os := os }
noncomputable def S173 (w : World) (os : OsState) (x y z u : Obj) : SharedT := { tree := put4 (tC w.params) x y z u, n := 172, life := { }, gens := { toList := [] }, drawn := { }, toks := 471, os := os }
noncomputable def S265 (w : World) (os : OsState) (x y z u : Obj) : SharedT := { tree := put4 (tD w.params) x y z u, n := 258, life := { }, gens := { toList := [] }, drawn := { }, toks := 593, os := os }
noncomputable def stA : List Stmt := pwF.main.body.take 42
noncomputable def stC : List Stmt := pwF.main.body.drop 43
set_option maxHeartbeats 0 in
theorem gC (w : World) (p : Program) (b : List Stmt) (os : OsState) (x y z u : Obj) :
   segRunT treeTable p w 11 annF 1 537 (S173 w os x y z u) (piecesOf stC env1 (Code.body b env1) pos42 BB) = some (Flow.next, S265 w os x y z u, Code.body b env1, posE) := by
  rw [Fast.te10110043849684766642, Fast.te14364793385576792824]
  kernel_rfl
set_option maxHeartbeats 0 in
theorem gA (w : World) (p : Program) (b : List Stmt) (os : OsState) :
   segRunT treeTable p w 11 annF 1 1264 (Sb w os) (piecesOf stA env1 (Code.body b env1) pos0 BB) = some (Flow.next, S168 w os, Code.body b env1, pos41) := by
  rw [Fast.te10110043849684766642, Fast.te14364793385576792824]
  kernel_rfl
end Mine
end
section
open PySem PySem.W PyProof.Rows
namespace Mine
open suf
noncomputable def Hfin (P : Params) (x y z u : Obj) : Heap := ⟨⟨[(boot_o_0 P), (boot_o_1 P), (boot_o_2 P), (o_231 P), (boot_o_4 P), (boot_o_5 P), (boot_o_6 P), (boot_o_7 P), (boot_o_8 P), (boot_o_9 P), (boot_o_10 P), (o_1 P), (o_232 P), (o_3 P), (o_4 P), (o_1 P), (o_8 P), (o_9 P), (o_1 P), (o_11 P), (o_12 P), (o_13 P), (o_1 P), (o_8 P), (o_16 P), (o_1 P), (o_18 P), (o_19 P), (o_20 P), (o_21 P), (o_22 P), (o_23 P), (o_24 P), (o_25 P), (o_26 P), (o_27 P), (o_28 P), (o_29 P), (o_30 P), (o_31 P), (o_32 P), (o_33 P), (o_34 P), (o_35 P), (o_36 P), (o_37 P), (o_38 P), (o_39 P), (o_40 P), (o_41 P), (o_42 P), (o_43 P), (o_44 P), (o_45 P), (o_46 P), (o_47 P), (o_48 P), (o_49 P), (o_50 P), (o_51 P), (o_52 P), (o_53 P), (o_1 P), (o_8 P), (o_59 P), (o_1 P), (o_61 P), (o_62 P), (o_63 P), (o_1 P), (o_8 P), (o_66 P), (o_1 P), (o_68 P), (o_69 P), (o_70 P), (o_71 P), (o_72 P), (o_73 P), (o_1 P), (o_75 P), (o_76 P), (o_77 P), (o_1 P), (o_8 P), (o_80 P), (o_1 P), (o_82 P), (o_83 P), (o_84 P), (o_1 P), (o_86 P), (o_93 P), (o_88 P), (o_89 P), (o_94 P), (o_72 P), (o_96 P), (o_1 P), (o_98 P), (o_99 P), (o_100 P), (o_1 P), (o_8 P), (o_103 P), (o_1 P), (o_105 P), (o_106 P), (o_107 P), (o_1 P), (o_8 P), (o_110 P), (o_1 P), (o_112 P), (o_113 P), (o_114 P), (o_1 P), (o_8 P), (o_117 P), (o_1 P), (o_119 P), (o_120 P), (o_121 P), (o_1 P), (o_123 P), (o_124 P), (o_125 P), (o_126 P), (o_1 P), (o_8 P), (o_129 P), (o_1 P), (o_131 P), (o_132 P), (o_133 P), (o_1 P), (o_8 P), (o_136 P), (o_1 P), (o_138 P), (o_139 P), (o_140 P), (o_1 P), (o_8 P), (o_146 P), (o_1 P), (o_148 P), (o_149 P), (o_150 P), (o_1 P), (o_8 P), (o_153 P), (o_1 P), (o_155 P), (o_156 P), (o_157 P), (o_1 P), (o_8 P), (o_160 P), (o_1 P), (o_162 P), (o_163 P), (o_164 P), (o_1 P), (o_8 P), (o_167 P), (o_168 P), (o_169 P), x, y, z, u, (o_177 P), (o_72 P), (o_179 P), (o_1 P), (o_8 P), (o_182 P), (o_183 P), (o_1 P), (o_185 P), (o_186 P), (o_187 P), (o_188 P), (o_189 P), (o_1 P), (o_8 P), (o_192 P), (o_1 P), (o_194 P), (o_195 P), (o_196 P), (o_1 P), (o_8 P), (o_199 P), (o_1 P), (o_201 P), (o_202 P), (o_203 P), (o_1 P), (o_8 P), (o_206 P), (o_1 P), (o_208 P), (o_209 P), (o_210 P), (o_1 P), (o_8 P), (o_213 P), (o_1 P), (o_215 P), (o_216 P), (o_217 P), (o_1 P), (o_8 P), (o_220 P), (o_1 P), (o_222 P), (o_223 P), (o_224 P), (o_1 P), (o_8 P), (o_227 P), (o_228 P), (o_229 P), (o_1 P), (o_8 P), (o_235 P), (o_1 P), (o_237 P), (o_238 P), (o_239 P), (o_1 P), (o_8 P), (o_242 P), (o_1 P), (o_244 P), (o_245 P), (o_246 P), (o_1 P), (o_8 P), (o_249 P), (o_1 P), (o_251 P), (o_252 P), (o_253 P), (o_1 P), (o_8 P), (o_256 P), (o_1 P), (o_258 P), (o_259 P), (o_260 P), (o_1 P), (o_8 P), (o_263 P), (o_264 P), (o_265 P)]⟩, {}⟩
noncomputable def KF : Params → Frag := fun P => (nat_lit 2, (boot_o_2 P)) :: (nat_lit 3, (o_231 P)) :: (nat_lit 15, (o_1 P)) :: (nat_lit 17, (o_9 P)) :: (nat_lit 18, (o_1 P)) :: (nat_lit 20, (o_12 P)) :: (nat_lit 21, (o_13 P)) :: (nat_lit 22, (o_1 P)) :: (nat_lit 24, (o_16 P)) :: (nat_lit 25, (o_1 P)) :: (nat_lit 27, (o_19 P)) :: (nat_lit 28, (o_20 P)) :: (nat_lit 29, (o_21 P)) :: (nat_lit 30, (o_22 P)) :: (nat_lit 31, (o_23 P)) :: (nat_lit 32, (o_24 P)) :: (nat_lit 33, (o_25 P)) :: (nat_lit 34, (o_26 P)) :: (nat_lit 35, (o_27 P)) :: (nat_lit 36, (o_28 P)) :: (nat_lit 37, (o_29 P)) :: (nat_lit 38, (o_30 P)) :: (nat_lit 39, (o_31 P)) :: (nat_lit 40, (o_32 P)) :: (nat_lit 41, (o_33 P)) :: (nat_lit 42, (o_34 P)) :: (nat_lit 43, (o_35 P)) :: (nat_lit 44, (o_36 P)) :: (nat_lit 45, (o_37 P)) :: (nat_lit 46, (o_38 P)) :: (nat_lit 47, (o_39 P)) :: (nat_lit 48, (o_40 P)) :: (nat_lit 49, (o_41 P)) :: (nat_lit 50, (o_42 P)) :: (nat_lit 51, (o_43 P)) :: (nat_lit 52, (o_44 P)) :: (nat_lit 53, (o_45 P)) :: (nat_lit 54, (o_46 P)) :: (nat_lit 55, (o_47 P)) :: (nat_lit 56, (o_48 P)) :: (nat_lit 57, (o_49 P)) :: (nat_lit 58, (o_50 P)) :: (nat_lit 59, (o_51 P)) :: (nat_lit 60, (o_52 P)) :: (nat_lit 61, (o_53 P)) :: (nat_lit 62, (o_1 P)) :: (nat_lit 64, (o_59 P)) :: (nat_lit 65, (o_1 P)) :: (nat_lit 67, (o_62 P)) :: (nat_lit 68, (o_63 P)) :: (nat_lit 69, (o_1 P)) :: (nat_lit 71, (o_66 P)) :: (nat_lit 72, (o_1 P)) :: (nat_lit 74, (o_69 P)) :: (nat_lit 75, (o_70 P)) :: (nat_lit 76, (o_71 P)) :: (nat_lit 83, (o_1 P)) :: (nat_lit 85, (o_80 P)) :: (nat_lit 86, (o_1 P)) :: (nat_lit 88, (o_83 P)) :: (nat_lit 89, (o_84 P)) :: (nat_lit 90, (o_1 P)) :: (nat_lit 91, (o_86 P)) :: (nat_lit 92, (o_93 P)) :: (nat_lit 95, (o_94 P)) :: (nat_lit 102, (o_1 P)) :: (nat_lit 104, (o_103 P)) :: (nat_lit 105, (o_1 P)) :: (nat_lit 107, (o_106 P)) :: (nat_lit 108, (o_107 P)) :: (nat_lit 109, (o_1 P)) :: (nat_lit 111, (o_110 P)) :: (nat_lit 112, (o_1 P)) :: (nat_lit 114, (o_113 P)) :: (nat_lit 115, (o_114 P)) :: (nat_lit 116, (o_1 P)) :: (nat_lit 118, (o_117 P)) :: (nat_lit 119, (o_1 P)) :: (nat_lit 121, (o_120 P)) :: (nat_lit 122, (o_121 P)) :: (nat_lit 123, (o_1 P)) :: (nat_lit 124, (o_123 P)) :: (nat_lit 125, (o_124 P)) :: (nat_lit 128, (o_1 P)) :: (nat_lit 130, (o_129 P)) :: (nat_lit 131, (o_1 P)) :: (nat_lit 133, (o_132 P)) :: (nat_lit 134, (o_133 P)) :: (nat_lit 135, (o_1 P)) :: (nat_lit 137, (o_136 P)) :: (nat_lit 138, (o_1 P)) :: (nat_lit 140, (o_139 P)) :: (nat_lit 141, (o_140 P)) :: (nat_lit 142, (o_1 P)) :: (nat_lit 144, (o_146 P)) :: (nat_lit 145, (o_1 P)) :: (nat_lit 147, (o_149 P)) :: (nat_lit 148, (o_150 P)) :: (nat_lit 149, (o_1 P)) :: (nat_lit 151, (o_153 P)) :: (nat_lit 152, (o_1 P)) :: (nat_lit 154, (o_156 P)) :: (nat_lit 155, (o_157 P)) :: (nat_lit 156, (o_1 P)) :: (nat_lit 158, (o_160 P)) :: (nat_lit 159, (o_1 P)) :: (nat_lit 161, (o_163 P)) :: (nat_lit 162, (o_164 P)) :: (nat_lit 163, (o_1 P)) :: (nat_lit 166, (o_168 P)) :: (nat_lit 167, (o_169 P)) :: (nat_lit 172, (o_177 P)) :: (nat_lit 179, (o_1 P)) :: (nat_lit 180, (o_185 P)) :: (nat_lit 181, (o_186 P)) :: (nat_lit 182, (o_187 P)) :: (nat_lit 185, (o_1 P)) :: (nat_lit 187, (o_192 P)) :: (nat_lit 188, (o_1 P)) :: (nat_lit 190, (o_195 P)) :: (nat_lit 191, (o_196 P)) :: (nat_lit 192, (o_1 P)) :: (nat_lit 194, (o_199 P)) :: (nat_lit 195, (o_1 P)) :: (nat_lit 197, (o_202 P)) :: (nat_lit 198, (o_203 P)) :: (nat_lit 199, (o_1 P)) :: (nat_lit 201, (o_206 P)) :: (nat_lit 202, (o_1 P)) :: (nat_lit 204, (o_209 P)) :: (nat_lit 205, (o_210 P)) :: (nat_lit 206, (o_1 P)) :: (nat_lit 208, (o_213 P)) :: (nat_lit 209, (o_1 P)) :: (nat_lit 211, (o_216 P)) :: (nat_lit 212, (o_217 P)) :: (nat_lit 213, (o_1 P)) :: (nat_lit 215, (o_220 P)) :: (nat_lit 216, (o_1 P)) :: (nat_lit 218, (o_223 P)) :: (nat_lit 219, (o_224 P)) :: (nat_lit 220, (o_1 P)) :: (nat_lit 223, (o_228 P)) :: (nat_lit 224, (o_229 P)) :: (nat_lit 225, (o_1 P)) :: (nat_lit 227, (o_235 P)) :: (nat_lit 228, (o_1 P)) :: (nat_lit 230, (o_238 P)) :: (nat_lit 231, (o_239 P)) :: (nat_lit 232, (o_1 P)) :: (nat_lit 234, (o_242 P)) :: (nat_lit 235, (o_1 P)) :: (nat_lit 237, (o_245 P)) :: (nat_lit 238, (o_246 P)) :: (nat_lit 239, (o_1 P)) :: (nat_lit 241, (o_249 P)) :: (nat_lit 242, (o_1 P)) :: (nat_lit 244, (o_252 P)) :: (nat_lit 245, (o_253 P)) :: (nat_lit 246, (o_1 P)) :: (nat_lit 248, (o_256 P)) :: (nat_lit 249, (o_1 P)) :: (nat_lit 251, (o_259 P)) :: (nat_lit 252, (o_260 P)) :: (nat_lit 253, (o_1 P)) :: (nat_lit 256, (o_264 P)) :: (nat_lit 257, (o_265 P)) :: []
noncomputable abbrev asF : List Addr := 2 :: 3 :: 15 :: 17 :: 18 :: 20 :: 21 :: 22 :: 24 :: 25 :: 27 :: 28 :: 29 :: 30 :: 31 :: 32 :: 33 :: 34 :: 35 :: 36 :: 37 :: 38 :: 39 :: 40 :: 41 :: 42 :: 43 :: 44 :: 45 :: 46 :: 47 :: 48 :: 49 :: 50 :: 51 :: 52 :: 53 :: 54 :: 55 :: 56 :: 57 :: 58 :: 59 :: 60 :: 61 :: 62 :: 64 :: 65 :: 67 :: 68 :: 69 :: 71 :: 72 :: 74 :: 75 :: 76 :: 83 :: 85 :: 86 :: 88 :: 89 :: 90 :: 91 :: 92 :: 95 :: 102 :: 104 :: 105 :: 107 :: 108 :: 109 :: 111 :: 112 :: 114 :: 115 :: 116 :: 118 :: 119 :: 121 :: 122 :: 123 :: 124 :: 125 :: 128 :: 130 :: 131 :: 133 :: 134 :: 135 :: 137 :: 138 :: 140 :: 141 :: 142 :: 144 :: 145 :: 147 :: 148 :: 149 :: 151 :: 152 :: 154 :: 155 :: 156 :: 158 :: 159 :: 161 :: 162 :: 163 :: 166 :: 167 :: 172 :: 179 :: 180 :: 181 :: 182 :: 185 :: 187 :: 188 :: 190 :: 191 :: 192 :: 194 :: 195 :: 197 :: 198 :: 199 :: 201 :: 202 :: 204 :: 205 :: 206 :: 208 :: 209 :: 211 :: 212 :: 213 :: 215 :: 216 :: 218 :: 219 :: 220 :: 223 :: 224 :: 225 :: 227 :: 228 :: 230 :: 231 :: 232 :: 234 :: 235 :: 237 :: 238 :: 239 :: 241 :: 242 :: 244 :: 245 :: 246 :: 248 :: 249 :: 251 :: 252 :: 253 :: 256 :: 257 :: []
noncomputable def KXF : Params → Frag := fun P => (nat_lit 0, (boot_o_0 P)) :: (nat_lit 1, (boot_o_1 P)) :: (nat_lit 2, (boot_o_2 P)) :: (nat_lit 3, (o_231 P)) :: (nat_lit 4, (boot_o_4 P)) :: (nat_lit 5, (boot_o_5 P)) :: (nat_lit 6, (boot_o_6 P)) :: (nat_lit 7, (boot_o_7 P)) :: (nat_lit 8, (boot_o_8 P)) :: (nat_lit 9, (boot_o_9 P)) :: (nat_lit 10, (boot_o_10 P)) :: (nat_lit 11, (o_1 P)) :: (nat_lit 12, (o_232 P)) :: (nat_lit 13, (o_3 P)) :: (nat_lit 14, (o_4 P)) :: (nat_lit 15, (o_1 P)) :: (nat_lit 16, (o_8 P)) :: (nat_lit 17, (o_9 P)) :: (nat_lit 18, (o_1 P)) :: (nat_lit 19, (o_11 P)) :: (nat_lit 20, (o_12 P)) :: (nat_lit 21, (o_13 P)) :: (nat_lit 22, (o_1 P)) :: (nat_lit 23, (o_8 P)) :: (nat_lit 24, (o_16 P)) :: (nat_lit 25, (o_1 P)) :: (nat_lit 26, (o_18 P)) :: (nat_lit 27, (o_19 P)) :: (nat_lit 28, (o_20 P)) :: (nat_lit 29, (o_21 P)) :: (nat_lit 30, (o_22 P)) :: (nat_lit 31, (o_23 P)) :: (nat_lit 32, (o_24 P)) :: (nat_lit 33, (o_25 P)) :: (nat_lit 34, (o_26 P)) :: (nat_lit 35, (o_27 P)) :: (nat_lit 36, (o_28 P)) :: (nat_lit 37, (o_29 P)) :: (nat_lit 38, (o_30 P)) :: (nat_lit 39, (o_31 P)) :: (nat_lit 40, (o_32 P)) :: (nat_lit 41, (o_33 P)) :: (nat_lit 42, (o_34 P)) :: (nat_lit 43, (o_35 P)) :: (nat_lit 44, (o_36 P)) :: (nat_lit 45, (o_37 P)) :: (nat_lit 46, (o_38 P)) :: (nat_lit 47, (o_39 P)) :: (nat_lit 48, (o_40 P)) :: (nat_lit 49, (o_41 P)) :: (nat_lit 50, (o_42 P)) :: (nat_lit 51, (o_43 P)) :: (nat_lit 52, (o_44 P)) :: (nat_lit 53, (o_45 P)) :: (nat_lit 54, (o_46 P)) :: (nat_lit 55, (o_47 P)) :: (nat_lit 56, (o_48 P)) :: (nat_lit 57, (o_49 P)) :: (nat_lit 58, (o_50 P)) :: (nat_lit 59, (o_51 P)) :: (nat_lit 60, (o_52 P)) :: (nat_lit 61, (o_53 P)) :: (nat_lit 62, (o_1 P)) :: (nat_lit 63, (o_8 P)) :: (nat_lit 64, (o_59 P)) :: (nat_lit 65, (o_1 P)) :: (nat_lit 66, (o_61 P)) :: (nat_lit 67, (o_62 P)) :: (nat_lit 68, (o_63 P)) :: (nat_lit 69, (o_1 P)) :: (nat_lit 70, (o_8 P)) :: (nat_lit 71, (o_66 P)) :: (nat_lit 72, (o_1 P)) :: (nat_lit 73, (o_68 P)) :: (nat_lit 74, (o_69 P)) :: (nat_lit 75, (o_70 P)) :: (nat_lit 76, (o_71 P)) :: (nat_lit 77, (o_72 P)) :: (nat_lit 78, (o_73 P)) :: (nat_lit 79, (o_1 P)) :: (nat_lit 80, (o_75 P)) :: (nat_lit 81, (o_76 P)) :: (nat_lit 82, (o_77 P)) :: (nat_lit 83, (o_1 P)) :: (nat_lit 84, (o_8 P)) :: (nat_lit 85, (o_80 P)) :: (nat_lit 86, (o_1 P)) :: (nat_lit 87, (o_82 P)) :: (nat_lit 88, (o_83 P)) :: (nat_lit 89, (o_84 P)) :: (nat_lit 90, (o_1 P)) :: (nat_lit 91, (o_86 P)) :: (nat_lit 92, (o_93 P)) :: (nat_lit 93, (o_88 P)) :: (nat_lit 94, (o_89 P)) :: (nat_lit 95, (o_94 P)) :: (nat_lit 96, (o_72 P)) :: (nat_lit 97, (o_96 P)) :: (nat_lit 98, (o_1 P)) :: (nat_lit 99, (o_98 P)) :: (nat_lit 100, (o_99 P)) :: (nat_lit 101, (o_100 P)) :: (nat_lit 102, (o_1 P)) :: (nat_lit 103, (o_8 P)) :: (nat_lit 104, (o_103 P)) :: (nat_lit 105, (o_1 P)) :: (nat_lit 106, (o_105 P)) :: (nat_lit 107, (o_106 P)) :: (nat_lit 108, (o_107 P)) :: (nat_lit 109, (o_1 P)) :: (nat_lit 110, (o_8 P)) :: (nat_lit 111, (o_110 P)) :: (nat_lit 112, (o_1 P)) :: (nat_lit 113, (o_112 P)) :: (nat_lit 114, (o_113 P)) :: (nat_lit 115, (o_114 P)) :: (nat_lit 116, (o_1 P)) :: (nat_lit 117, (o_8 P)) :: (nat_lit 118, (o_117 P)) :: (nat_lit 119, (o_1 P)) :: (nat_lit 120, (o_119 P)) :: (nat_lit 121, (o_120 P)) :: (nat_lit 122, (o_121 P)) :: (nat_lit 123, (o_1 P)) :: (nat_lit 124, (o_123 P)) :: (nat_lit 125, (o_124 P)) :: (nat_lit 126, (o_125 P)) :: (nat_lit 127, (o_126 P)) :: (nat_lit 128, (o_1 P)) :: (nat_lit 129, (o_8 P)) :: (nat_lit 130, (o_129 P)) :: (nat_lit 131, (o_1 P)) :: (nat_lit 132, (o_131 P)) :: (nat_lit 133, (o_132 P)) :: (nat_lit 134, (o_133 P)) :: (nat_lit 135, (o_1 P)) :: (nat_lit 136, (o_8 P)) :: (nat_lit 137, (o_136 P)) :: (nat_lit 138, (o_1 P)) :: (nat_lit 139, (o_138 P)) :: (nat_lit 140, (o_139 P)) :: (nat_lit 141, (o_140 P)) :: (nat_lit 142, (o_1 P)) :: (nat_lit 143, (o_8 P)) :: (nat_lit 144, (o_146 P)) :: (nat_lit 145, (o_1 P)) :: (nat_lit 146, (o_148 P)) :: (nat_lit 147, (o_149 P)) :: (nat_lit 148, (o_150 P)) :: (nat_lit 149, (o_1 P)) :: (nat_lit 150, (o_8 P)) :: (nat_lit 151, (o_153 P)) :: (nat_lit 152, (o_1 P)) :: (nat_lit 153, (o_155 P)) :: (nat_lit 154, (o_156 P)) :: (nat_lit 155, (o_157 P)) :: (nat_lit 156, (o_1 P)) :: (nat_lit 157, (o_8 P)) :: (nat_lit 158, (o_160 P)) :: (nat_lit 159, (o_1 P)) :: (nat_lit 160, (o_162 P)) :: (nat_lit 161, (o_163 P)) :: (nat_lit 162, (o_164 P)) :: (nat_lit 163, (o_1 P)) :: (nat_lit 164, (o_8 P)) :: (nat_lit 165, (o_167 P)) :: (nat_lit 166, (o_168 P)) :: (nat_lit 167, (o_169 P)) :: (nat_lit 172, (o_177 P)) :: (nat_lit 173, (o_72 P)) :: (nat_lit 174, (o_179 P)) :: (nat_lit 175, (o_1 P)) :: (nat_lit 176, (o_8 P)) :: (nat_lit 177, (o_182 P)) :: (nat_lit 178, (o_183 P)) :: (nat_lit 179, (o_1 P)) :: (nat_lit 180, (o_185 P)) :: (nat_lit 181, (o_186 P)) :: (nat_lit 182, (o_187 P)) :: (nat_lit 183, (o_188 P)) :: (nat_lit 184, (o_189 P)) :: (nat_lit 185, (o_1 P)) :: (nat_lit 186, (o_8 P)) :: (nat_lit 187, (o_192 P)) :: (nat_lit 188, (o_1 P)) :: (nat_lit 189, (o_194 P)) :: (nat_lit 190, (o_195 P)) :: (nat_lit 191, (o_196 P)) :: (nat_lit 192, (o_1 P)) :: (nat_lit 193, (o_8 P)) :: (nat_lit 194, (o_199 P)) :: (nat_lit 195, (o_1 P)) :: (nat_lit 196, (o_201 P)) :: (nat_lit 197, (o_202 P)) :: (nat_lit 198, (o_203 P)) :: (nat_lit 199, (o_1 P)) :: (nat_lit 201, (o_206 P)) :: (nat_lit 202, (o_1 P)) :: (nat_lit 203, (o_208 P)) :: (nat_lit 204, (o_209 P)) :: (nat_lit 205, (o_210 P)) :: (nat_lit 206, (o_1 P)) :: (nat_lit 207, (o_8 P)) :: (nat_lit 208, (o_213 P)) :: (nat_lit 209, (o_1 P)) :: (nat_lit 210, (o_215 P)) :: (nat_lit 211, (o_216 P)) :: (nat_lit 212, (o_217 P)) :: (nat_lit 213, (o_1 P)) :: (nat_lit 214, (o_8 P)) :: (nat_lit 215, (o_220 P)) :: (nat_lit 216, (o_1 P)) :: (nat_lit 217, (o_222 P)) :: (nat_lit 218, (o_223 P)) :: (nat_lit 219, (o_224 P)) :: (nat_lit 220, (o_1 P)) :: (nat_lit 221, (o_8 P)) :: (nat_lit 222, (o_227 P)) :: (nat_lit 223, (o_228 P)) :: (nat_lit 224, (o_229 P)) :: (nat_lit 225, (o_1 P)) :: (nat_lit 226, (o_8 P)) :: (nat_lit 227, (o_235 P)) :: (nat_lit 228, (o_1 P)) :: (nat_lit 229, (o_237 P)) :: (nat_lit 230, (o_238 P)) :: (nat_lit 231, (o_239 P)) :: (nat_lit 232, (o_1 P)) :: (nat_lit 233, (o_8 P)) :: (nat_lit 234, (o_242 P)) :: (nat_lit 235, (o_1 P)) :: (nat_lit 236, (o_244 P)) :: (nat_lit 237, (o_245 P)) :: (nat_lit 238, (o_246 P)) :: (nat_lit 239, (o_1 P)) :: (nat_lit 240, (o_8 P)) :: (nat_lit 241, (o_249 P)) :: (nat_lit 242, (o_1 P)) :: (nat_lit 243, (o_251 P)) :: (nat_lit 244, (o_252 P)) :: (nat_lit 245, (o_253 P)) :: (nat_lit 246, (o_1 P)) :: (nat_lit 247, (o_8 P)) :: (nat_lit 248, (o_256 P)) :: (nat_lit 249, (o_1 P)) :: (nat_lit 250, (o_258 P)) :: (nat_lit 251, (o_259 P)) :: (nat_lit 252, (o_260 P)) :: (nat_lit 253, (o_1 P)) :: (nat_lit 254, (o_8 P)) :: (nat_lit 255, (o_263 P)) :: (nat_lit 256, (o_264 P)) :: (nat_lit 257, (o_265 P)) :: []
noncomputable abbrev asX : List Addr := 0 :: 1 :: 2 :: 3 :: 4 :: 5 :: 6 :: 7 :: 8 :: 9 :: 10 :: 11 :: 12 :: 13 :: 14 :: 15 :: 16 :: 17 :: 18 :: 19 :: 20 :: 21 :: 22 :: 23 :: 24 :: 25 :: 26 :: 27 :: 28 :: 29 :: 30 :: 31 :: 32 :: 33 :: 34 :: 35 :: 36 :: 37 :: 38 :: 39 :: 40 :: 41 :: 42 :: 43 :: 44 :: 45 :: 46 :: 47 :: 48 :: 49 :: 50 :: 51 :: 52 :: 53 :: 54 :: 55 :: 56 :: 57 :: 58 :: 59 :: 60 :: 61 :: 62 :: 63 :: 64 :: 65 :: 66 :: 67 :: 68 :: 69 :: 70 :: 71 :: 72 :: 73 :: 74 :: 75 :: 76 :: 77 :: 78 :: 79 :: 80 :: 81 :: 82 :: 83 :: 84 :: 85 :: 86 :: 87 :: 88 :: 89 :: 90 :: 91 :: 92 :: 93 :: 94 :: 95 :: 96 :: 97 :: 98 :: 99 :: 100 :: 101 :: 102 :: 103 :: 104 :: 105 :: 106 :: 107 :: 108 :: 109 :: 110 :: 111 :: 112 :: 113 :: 114 :: 115 :: 116 :: 117 :: 118 :: 119 :: 120 :: 121 :: 122 :: 123 :: 124 :: 125 :: 126 :: 127 :: 128 :: 129 :: 130 :: 131 :: 132 :: 133 :: 134 :: 135 :: 136 :: 137 :: 138 :: 139 :: 140 :: 141 :: 142 :: 143 :: 144 :: 145 :: 146 :: 147 :: 148 :: 149 :: 150 :: 151 :: 152 :: 153 :: 154 :: 155 :: 156 :: 157 :: 158 :: 159 :: 160 :: 161 :: 162 :: 163 :: 164 :: 165 :: 166 :: 167 :: 172 :: 173 :: 174 :: 175 :: 176 :: 177 :: 178 :: 179 :: 180 :: 181 :: 182 :: 183 :: 184 :: 185 :: 186 :: 187 :: 188 :: 189 :: 190 :: 191 :: 192 :: 193 :: 194 :: 195 :: 196 :: 197 :: 198 :: 199 :: 201 :: 202 :: 203 :: 204 :: 205 :: 206 :: 207 :: 208 :: 209 :: 210 :: 211 :: 212 :: 213 :: 214 :: 215 :: 216 :: 217 :: 218 :: 219 :: 220 :: 221 :: 222 :: 223 :: 224 :: 225 :: 226 :: 227 :: 228 :: 229 :: 230 :: 231 :: 232 :: 233 :: 234 :: 235 :: 236 :: 237 :: 238 :: 239 :: 240 :: 241 :: 242 :: 243 :: 244 :: 245 :: 246 :: 247 :: 248 :: 249 :: 250 :: 251 :: 252 :: 253 :: 254 :: 255 :: 256 :: 257 :: []
noncomputable abbrev itEnd : Obj := { cls := .type "str_ascii_iterator", data := .fields #[.none, .int 22 0] }
noncomputable abbrev tupE : Obj := { cls := .type "tuple", data := .seq #[] }
noncomputable abbrev stopE : Obj := { cls := .type "StopIteration", data := .fields #[.ref 170, .none, .none, .none, .bool false, .none] }
noncomputable abbrev hexO (es : Array (Int × Value)) (ep : Nat) (t : SetTable) : Obj := { cls := .type "frozenset", data := .set es ep t }
noncomputable abbrev ch1 (n : Nat) : WData := .str { cps := #[n] }
noncomputable abbrev row1 (l : List (Int × Nat)) : WData := .tuple (l.map fun p => .tuple [.int p.1, ch1 p.2])
noncomputable def lvF : List (PySem.Str × WData) :=
  [(PySem.Str.ofString "_filemode_table",
      .tuple [.tuple [.tuple [.int 40960, ch1 108], .tuple [.int 49152, ch1 115], .tuple [.int 32768, ch1 45], .tuple [.int 24576, ch1 98], .tuple [.int 16384, ch1 100], .tuple [.int 8192, ch1 99], .tuple [.int 4096, ch1 112]],
        .tuple [.tuple [.int 256, ch1 114]], .tuple [.tuple [.int 128, ch1 119]], .tuple [.tuple [.int 2112, ch1 115], .tuple [.int 2048, ch1 83], .tuple [.int 64, ch1 120]],
        .tuple [.tuple [.int 32, ch1 114]], .tuple [.tuple [.int 16, ch1 119]], .tuple [.tuple [.int 1032, ch1 115], .tuple [.int 1024, ch1 83], .tuple [.int 8, ch1 120]],
        .tuple [.tuple [.int 4, ch1 114]], .tuple [.tuple [.int 2, ch1 119]], .tuple [.tuple [.int 513, ch1 116], .tuple [.int 512, ch1 84], .tuple [.int 1, ch1 120]]]),
   (PySem.Str.ofString "hexdigits", .str { cps := #[48, 49, 50, 51, 52, 53, 54, 55, 56, 57, 97, 98, 99, 100, 101, 102, 65, 66, 67, 68, 69, 70] })]
noncomputable abbrev looseF : List PySem.Str := [PySem.Str.ofString "_filemode_table", PySem.Str.ofString "hexdigits", PySem.Str.ofString "HEXDIGIT_CHARS"]
/-- what of the program the head tells in the library's words -/
noncomputable def viewF : Program := { pwF with main := { pwF.main with body := ([0, 2, 3, 4, 5, 6, 7, 8, 9, 10, 11, 12, 13, 14, 15, 16, 17, 18, 19, 20, 21, 22, 23, 25, 27, 29, 30, 32, 34, 36, 37, 38, 39, 40, 42, 43, 44, 45, 46, 47, 49, 50, 51, 52, 53, 54, 55] : List Nat).map st } }
noncomputable def XtF : Shared → Bool := fun s => xlAt viewF lvF s && recOk (RowW.records PySem.Challenge.rw_rt0072_01.row.toRowW) s
noncomputable abbrev Sfin (w : World) (os : OsState) (es : Array (Int × Value)) (ep : Nat) (t : SetTable) : Shared := ⟨Hfin w.params (hexO es ep t) itEnd tupE stopE, #[], {}, 593, os⟩
set_option maxHeartbeats 0 in
theorem abs265 (w : World) (os : OsState) (x y z u : Obj) : (S265 w os x y z u).abs = ⟨Hfin w.params x y z u, #[], {}, 593, os⟩ := by kernel_rfl
set_option maxHeartbeats 0 in
theorem look1 (w : World) (os : OsState) (es : Array (Int × Value)) (ep : Nat) (t : SetTable) :
    (staticsOk (importedModules pwF.main.body) (boot_heap w.params) (Sfin w os es ep t).heap && namesBound pwF (Sfin w os es ep t).heap && gensDone (Sfin w os es ep t) && laidKept (boot_heap w.params) (Sfin w os es ep t).heap) = true := by
  kernel_rfl
set_option maxHeartbeats 0 in
theorem look2 (w : World) (os : OsState) (es : Array (Int × Value)) (ep : Nat) (t : SetTable) :
    openSeen viewF looseF (importedModules pwF.main.body) XtF true (Sfin w os es ep t) = openGood viewF looseF := by
  kernel_rfl
end Mine
end
section
open PySem PySem.W PyProof.Rows
namespace Mine
noncomputable abbrev loopC : Code := .builtin "set.update.loop" ⟨[.ref 168, .ref 169], []⟩
noncomputable abbrev loopP : Pos := ⟨158, 17, 158, 37⟩
section
variable (p : Program) (w : World) (f1 f2 f3 f4 : Frame)
/-- a tree that runs, within the loop's own frame, in at most B steps -/
noncomputable def Goes {α : Type} (S : SharedT) (m : Sem α) (B : Nat) (Q : α → SharedT → Prop) : Prop :=
  ∀ (K : α → Sem Fin), ∃ n, n ≤ B ∧ ∃ a S', Q a S' ∧ segGoT treeTable p w 11 annF 1 n S ⟨m.bind K, loopC, loopP, [f1, f2, f3, f4]⟩ = some (S', ⟨K a, loopC, loopP, [f1, f2, f3, f4]⟩)
variable {p w f1 f2 f3 f4}
theorem segGoT_add {tb : String → Option Builtin} {p : Program} {w : World} {n₀ : Nat} {ann : Option Value} {b : Nat} : ∀ {n m : Nat} {s s' : SharedT} {t t' : Thread} {r : Option (SharedT × Thread)},
    segGoT tb p w n₀ ann b n s t = some (s', t') → segGoT tb p w n₀ ann b m s' t' = r → segGoT tb p w n₀ ann b (n + m) s t = r
  | 0, m, s, s', t, t', r, h, k => by
    obtain ⟨rfl, rfl⟩ : s = s' ∧ t = t' := by simpa [segGoT] using h
    rw [Nat.zero_add]; exact k
  | n + 1, m, s, s', t, t', r, h, k => by
    rw [show n + 1 + m = n + m + 1 by omega]
    unfold segGoT at h ⊢
    cases he : endAt b t with
    | some f => rw [he] at h; cases h
    | none =>
      rw [he] at h
      cases hk : stepOk n₀ ann t with
      | false => rw [hk] at h; cases h
      | true =>
        rw [hk] at h
        cases hs : stepT (denote tb) p w s t with
        | none => rw [hs] at h; cases h
        | some x => obtain ⟨s₂, t₂⟩ := x; rw [hs] at h; exact segGoT_add h k
theorem segGoT_run {tb : String → Option Builtin} {p : Program} {w : World} {n₀ : Nat} {ann : Option Value} {b : Nat} : ∀ {n m : Nat} {s s' : SharedT} {t t' : Thread} {r : Option (Flow × SharedT × Code × Pos)},
    segGoT tb p w n₀ ann b n s t = some (s', t') → segRunT tb p w n₀ ann b m s' t' = r → segRunT tb p w n₀ ann b (n + m) s t = r
  | 0, m, s, s', t, t', r, h, k => by
    obtain ⟨rfl, rfl⟩ : s = s' ∧ t = t' := by simpa [segGoT] using h
    rw [Nat.zero_add]; exact k
  | n + 1, m, s, s', t, t', r, h, k => by
    rw [show n + 1 + m = n + m + 1 by omega]
    unfold segGoT at h
    unfold segRunT
    cases he : endAt b t with
    | some f => rw [he] at h; cases h
    | none =>
      rw [he] at h
      cases hk : stepOk n₀ ann t with
      | false => rw [hk] at h; cases h
      | true =>
        rw [hk] at h
        cases hs : stepT (denote tb) p w s t with
        | none => rw [hs] at h; cases h
        | some x => obtain ⟨s₂, t₂⟩ := x; rw [hs] at h; exact segGoT_run h k
theorem goes_pure {α : Type} {S : SharedT} {a : α} {Q : α → SharedT → Prop} (h : Q a S) : Goes p w f1 f2 f3 f4 S (.pure a) 0 Q :=
  fun K => ⟨0, Nat.le_refl _, a, S, h, rfl⟩
theorem goes_mono {α : Type} {S : SharedT} {m : Sem α} {B B' : Nat} {Q Q' : α → SharedT → Prop} (h : Goes p w f1 f2 f3 f4 S m B Q) (hB : B ≤ B') (hQ : ∀ a S', Q a S' → Q' a S') : Goes p w f1 f2 f3 f4 S m B' Q' :=
  fun K => by obtain ⟨n, hn, a, S', q, e⟩ := h K; exact ⟨n, Nat.le_trans hn hB, a, S', hQ _ _ q, e⟩
theorem goes_bind {α β : Type} {S : SharedT} {m : Sem α} {f : α → Sem β} {B C : Nat} {Q : β → SharedT → Prop} (h : Goes p w f1 f2 f3 f4 S m B (fun a S' => Goes p w f1 f2 f3 f4 S' (f a) C Q)) : Goes p w f1 f2 f3 f4 S (m.bind f) (B + C) Q :=
  fun K => by
    obtain ⟨n, hn, a, S', q, e⟩ := h fun a => (f a).bind K
    obtain ⟨n', hn', b, S'', q', e'⟩ := q K
    refine ⟨n + n', Nat.add_le_add hn hn', b, S'', q', ?_⟩
    rw [Sem.bind_assoc]
    exact segGoT_add e e'
theorem stepOk_load {a : Addr} {pt : Option Value} {k : Obj → Sem Fin} : stepOk 11 annF ⟨.load a pt k, loopC, loopP, [f1, f2, f3, f4]⟩ = true := by kernel_rfl
theorem stepOk_rule {tg : String} {k : Unit → Sem Fin} : stepOk 11 annF ⟨.rule tg k, loopC, loopP, [f1, f2, f3, f4]⟩ = true := by kernel_rfl
theorem stepOk_upd {pt : Option Value} {f : Obj → Obj} {k : Unit → Sem Fin} : stepOk 11 annF ⟨.update 168 pt f k, loopC, loopP, [f1, f2, f3, f4]⟩ = true := by kernel_rfl
theorem goes_load {α : Type} {S : SharedT} {a : Addr} {pt : Option Value} {k : Obj → Sem α} {o : Obj} {B : Nat} {Q : α → SharedT → Prop} (ha : Nat.blt a S.n = true) (hg : S.tree.get a = some o) (hal : alive o = some o)
    (h : Goes p w f1 f2 f3 f4 S (k o) B Q) : Goes p w f1 f2 f3 f4 S (.load a pt k) (1 + B) Q := fun K => by
  obtain ⟨n, hn, b, S', q, e⟩ := h K
  refine ⟨1 + n, by omega, b, S', q, ?_⟩
  refine segGoT_add (n := 1) (s' := S) (t' := ⟨(k o).bind K, loopC, loopP, [f1, f2, f3, f4]⟩) ?_ e
  obtain ⟨T, sz, life, gens, drawn, toks, os⟩ := S
  show segGoT treeTable p w 11 annF 1 1 _ ⟨.load a pt fun x => (k x).bind K, loopC, loopP, [f1, f2, f3, f4]⟩ = _
  unfold segGoT
  rw [show endAt 1 (⟨.load a pt fun x => (k x).bind K, loopC, loopP, [f1, f2, f3, f4]⟩ : Thread) = none from rfl, stepOk_load]
  dsimp only at ha hg
  simp only [stepT, ha, hg, hal, segGoT]
theorem goes_rule {α : Type} {S : SharedT} {tg : String} {k : Unit → Sem α} {B : Nat} {Q : α → SharedT → Prop}
    (h : Goes p w f1 f2 f3 f4 S (k ()) B Q) : Goes p w f1 f2 f3 f4 S (.rule tg k) (1 + B) Q := fun K => by
  obtain ⟨n, hn, b, S', q, e⟩ := h K
  refine ⟨1 + n, by omega, b, S', q, ?_⟩
  refine segGoT_add (n := 1) (s' := S) (t' := ⟨(k ()).bind K, loopC, loopP, [f1, f2, f3, f4]⟩) ?_ e
  obtain ⟨T, sz, life, gens, drawn, toks, os⟩ := S
  show segGoT treeTable p w 11 annF 1 1 _ ⟨.rule tg fun x => (k x).bind K, loopC, loopP, [f1, f2, f3, f4]⟩ = _
  unfold segGoT
  rw [show endAt 1 (⟨.rule tg fun x => (k x).bind K, loopC, loopP, [f1, f2, f3, f4]⟩ : Thread) = none from rfl, stepOk_rule]
  rfl
theorem goes_update {α : Type} {S : SharedT} {pt : Option Value} {f : Obj → Obj} {k : Unit → Sem α} {o : Obj} {B : Nat} {Q : α → SharedT → Prop} (ha : Nat.blt 168 S.n = true) (hg : S.tree.get 168 = some o) (hal : alive o = some o)
    (h : Goes p w f1 f2 f3 f4 { S with tree := S.tree.set 168 f } (k ()) B Q) : Goes p w f1 f2 f3 f4 S (.update 168 pt f k) (1 + B) Q := fun K => by
  obtain ⟨n, hn, b, S', q, e⟩ := h K
  refine ⟨1 + n, by omega, b, S', q, ?_⟩
  refine segGoT_add (n := 1) (s' := { S with tree := S.tree.set 168 f }) (t' := ⟨(k ()).bind K, loopC, loopP, [f1, f2, f3, f4]⟩) ?_ e
  obtain ⟨T, sz, life, gens, drawn, toks, os⟩ := S
  show segGoT treeTable p w 11 annF 1 1 _ ⟨.update 168 pt f fun x => (k x).bind K, loopC, loopP, [f1, f2, f3, f4]⟩ = _
  unfold segGoT
  rw [show endAt 1 (⟨.update 168 pt f fun x => (k x).bind K, loopC, loopP, [f1, f2, f3, f4]⟩ : Thread) = none from rfl, stepOk_upd]
  dsimp only at ha hg
  simp only [stepT, ha, hg, hal, segGoT]
end
end Mine
end
section
open PySem PySem.W PyProof.Rows
namespace Mine
noncomputable def hexS : Str := Str.ofString "0123456789abcdefABCDEF"
noncomputable abbrev itO (i : Nat) : Obj := { cls := .type "str_ascii_iterator", data := .fields #[.str hexS 422, .int i 0] }
noncomputable def L (w : World) (os : OsState) (X : Obj) (i tk : Nat) : SharedT := { tree := ((tB w.params).ins 168 X).ins 169 (itO i), n := 170, life := {}, gens := #[], drawn := {}, toks := tk, os := os }
section
variable {p : Program} {w : World} {f1 f2 f3 f4 : Frame} {os : OsState} {i tk : Nat}
theorem L_get (X : Obj) : (L w os X i tk).tree.get 168 = some X := by kernel_rfl
theorem L_lt (X : Obj) : Nat.blt 168 (L w os X i tk).n = true := by kernel_rfl
theorem L_set (X : Obj) (f : Obj → Obj) : { L w os X i tk with tree := (L w os X i tk).tree.set 168 f } = L w os (f X) i tk := by kernel_rfl
theorem goes_setState {es : Array (Int × Value)} {ep : Nat} {t : SetTable} {Q : (Array (Int × Value) × Nat × SetTable) → SharedT → Prop} (hf : t.fits es.size = true)
    (h : Q (es, ep, t) (L w os (hexO es ep t) i tk)) : Goes p w f1 f2 f3 f4 (L w os (hexO es ep t) i tk) (setState 168) 1 Q := by
  unfold setState
  refine goes_mono (goes_bind (m := load 168) (B := 1) (C := 0) (goes_load (B := 0) (L_lt _) (L_get _) rfl (goes_pure ?_))) (Nat.le_refl _) fun _ _ q => q
  dsimp only
  have hc : (t.place.size != es.size || decide (t.fill > t.mask)) = false := by
    simp only [SetTable.fits, Bool.and_eq_true, beq_iff_eq, decide_eq_true_eq] at hf
    simp [hf.1, Nat.not_lt.mpr hf.2]
  rw [hc]
  exact goes_pure h
theorem goes_storeSet {es es' : Array (Int × Value)} {ep : Nat} {t t' : SetTable} {Q : Unit → SharedT → Prop} (hz : es'.size ≤ sizeLine)
    (h : Q () (L w os (hexO es' (ep + 1) t') i tk)) : Goes p w f1 f2 f3 f4 (L w os (hexO es ep t) i tk) (storeSet 168 es' t') 2 Q := by
  unfold storeSet
  refine goes_mono (goes_bind (m := load 168) (B := 1) (C := 1) (goes_load (B := 0) (L_lt _) (L_get _) rfl (goes_pure ?_))) (Nat.le_refl _) fun _ _ q => q
  dsimp only
  rw [if_neg (Nat.not_lt.mpr hz)]
  refine goes_mono (goes_update (B := 0) (L_lt _) (L_get _) rfl ?_) (Nat.le_refl _) fun _ _ q => q
  rw [L_set]
  exact goes_pure h
theorem goes_gave (g : Bool) {S : SharedT} {Q : Unit → SharedT → Prop} (h : Q () S) : Goes p w f1 f2 f3 f4 S (match g with | true => rule "set.scan.the-table-gave-way" | false => pure ()) 1 Q := by
  cases g
  · exact goes_mono (goes_pure h) (Nat.zero_le _) fun _ _ q => q
  · exact goes_rule (B := 0) (goes_pure h)
theorem goes_tail {g : Bool → Sem Unit} (hg : ∀ (b : Bool) (S : SharedT) (Q' : Unit → SharedT → Prop), Q' () S → Goes p w f1 f2 f3 f4 S (g b) 1 Q')
    {es es1 : Array (Int × Value)} {ep : Nat} {t t2 : SetTable} {wasDummy : Bool} {R : Option Bool → SharedT → Prop} (hf2 : t2.fits es1.size = true) (hz : es1.size ≤ sizeLine)
    (h : ∀ es' ep' t', List.Perm es'.toList es1.toList → t'.fits es'.size = true → R (some true) (L w os (hexO es' ep' t') i tk)) :
    Goes p w f1 f2 f3 f4 (L w os (hexO es ep t) i tk) (do
        storeSet 168 es1 t2
        if (!wasDummy && t2.tooFull) = true then do
            g (relayAll t2 es1 (SetTable.grown es1.size)).2.2
            storeSet 168 (relayAll t2 es1 (SetTable.grown es1.size)).1 (relayAll t2 es1 (SetTable.grown es1.size)).2.1
            pure (some true)
          else pure (some true)) 5 R := by
  refine goes_mono (goes_bind (m := storeSet 168 es1 t2) (B := 2) (C := 3) (goes_storeSet hz ?_)) (by decide) fun _ _ q => q
  split
  · have hp := relayAll_perm t2 es1 (SetTable.grown es1.size)
    have hfr := relayAll_fits t2 es1 (SetTable.grown es1.size)
    generalize relayAll t2 es1 (SetTable.grown es1.size) = Rl at hp hfr ⊢
    obtain ⟨es2, t3, gave2⟩ := Rl
    dsimp only at hp hfr ⊢
    have hz2 : es2.size ≤ sizeLine := by
      have := hp.length_eq
      rw [Array.length_toList, Array.length_toList] at this
      omega
    refine goes_mono (goes_bind (m := g gave2) (B := 1) (C := 2) (hg _ _ _ ?_)) (by decide) fun _ _ q => q
    refine goes_mono (goes_bind (m := storeSet 168 es2 t3) (B := 2) (C := 0) (goes_storeSet hz2 ?_)) (by decide) fun _ _ q => q
    exact goes_pure (h _ _ _ hp hfr)
  · exact goes_mono (goes_pure (h _ _ _ (List.Perm.refl _) hf2)) (by decide) fun _ _ q => q
theorem goes_add {es : Array (Int × Value)} {ep : Nat} {t : SetTable} {c : Str} {ck : Tok} {h : Int} {Q : Bool → SharedT → Prop} (hf : t.fits es.size = true)
    (hscan : byScan (.str c ck) es = true) (hnone : es.findIdx? (fun e => e.2.isStr c) = none) (hstr : es.all (fun e => isExactStrKey e.2) = true) (hz : es.size + 1 ≤ sizeLine)
    (hQ : ∀ es' ep' t', List.Perm es'.toList (es.push (h, .str c ck)).toList → t'.fits es'.size = true → Q true (L w os (hexO es' ep' t') i tk)) :
    Goes p w f1 f2 f3 f4 (L w os (hexO es ep t) i tk) (setAddHashed 168 (.str c ck) h) 9 Q := by
  have hp := layNew_perm t es h (.str c ck)
  have hfit := layNew_fits t es h (.str c ck)
  unfold setAddHashed
  show Goes p w f1 f2 f3 f4 _ (setAddHashedIn 168 (.str c ck) h 100000) 9 Q
  unfold setAddHashedIn
  refine goes_mono (goes_bind (m := setState 168) (B := 1) (C := 8) (goes_setState hf ?_)) (by decide) fun _ _ q => q
  dsimp only
  rw [if_pos hscan]
  unfold setAddByScan
  refine goes_mono (goes_bind (B := 8) (C := 0) ?_) (by decide) fun _ _ q => q
  refine goes_mono (goes_bind (m := rule "set.add.by-scan") (B := 1) (C := 7) (goes_rule (B := 0) (goes_pure ?_))) (by decide) fun _ _ q => q
  refine goes_mono (goes_bind (m := setScan 168 (.str c ck) h true es) (B := 0) (C := 7) ?_) (by decide) fun _ _ q => q
  unfold setScan
  dsimp only
  rw [if_pos hstr]
  unfold setScanStrs
  rw [hnone]
  refine goes_pure ?_
  dsimp only
  generalize layNew t es h (.str c ck) = R at hp hfit
  obtain ⟨es1, t1, wasDummy, gave⟩ := R
  dsimp only at hp hfit ⊢
  have hz1 : es1.size ≤ sizeLine := by
    have := hp.length_eq
    rw [Array.length_toList, Array.length_toList, Array.size_push] at this
    omega
  have hend : ∀ es' ep' t', List.Perm es'.toList es1.toList → t'.fits es'.size = true → Q true (L w os (hexO es' ep' t') i tk) := fun es' ep' t' q1 q2 => hQ _ _ _ (q1.trans hp) q2
  have hgw : ∀ (b : Bool) (S : SharedT) (Q' : Unit → SharedT → Prop), Q' () S → Goes p w f1 f2 f3 f4 S (match b with | true => rule "set.scan.the-table-gave-way" | false => pure ()) 1 Q' := fun b S Q' q => goes_gave b q
  refine goes_mono (goes_bind (B := 1) (C := 5) (hgw gave _ _ ?_)) (by decide) fun _ _ q => q
  split
  · rw [hashByValue_scannable 8 (x := .str c ck) rfl]
    refine goes_mono (goes_bind (B := 0) (C := 5) (goes_pure ?_)) (by decide) fun _ _ q => q
    refine goes_tail hgw ?_ hz1 fun es' ep' t' q1 q2 => goes_pure (hend es' ep' t' q1 q2)
    exact SetTable.fits_plain_off hfit
  · refine goes_mono (goes_bind (B := 0) (C := 5) (goes_pure ?_)) (by decide) fun _ _ q => q
    exact goes_tail hgw hfit hz1 fun es' ep' t' q1 q2 => goes_pure (hend es' ep' t' q1 q2)
end
end Mine
end
section
open PySem PySem.W PyProof.Rows
namespace Mine
/-- the i-th sign of the hex digits, a text of its own -/
noncomputable def hx (i : Nat) : Str := ⟨#[hexS.cps.getD i 0]⟩
noncomputable abbrev thr (m : Sem Fin) (f1 f2 f3 f4 : Frame) : Thread := ⟨m, loopC, loopP, [f1, f2, f3, f4]⟩
noncomputable abbrev NextAt (p : Program) (w : World) (os : OsState) (f1 f2 f3 f4 : Frame) (X : Obj) (tk i : Nat) (K : Option Value → Sem Fin) : Prop :=
  segGoT treeTable p w 11 annF 1 10 (L w os X i tk) (thr ((pyNext (.ref 169)).bind K) f1 f2 f3 f4) = some (L w os X (i + 1) (tk + 1), thr (K (some (.str (hx i) tk))) f1 f2 f3 f4)
section
variable (p : Program) (w : World) (os : OsState) (f1 f2 f3 f4 : Frame) (X : Obj) (tk : Nat) (K : Option Value → Sem Fin)
theorem nx0 : NextAt p w os f1 f2 f3 f4 X tk 0 K := by unfold NextAt; rw [Fast.te10295753902157049106, Fast.te14364793385576792824]; kernel_rfl
theorem nx1 : NextAt p w os f1 f2 f3 f4 X tk 1 K := by unfold NextAt; rw [Fast.te10295753902157049106, Fast.te14364793385576792824]; kernel_rfl
theorem nx2 : NextAt p w os f1 f2 f3 f4 X tk 2 K := by unfold NextAt; rw [Fast.te10295753902157049106, Fast.te14364793385576792824]; kernel_rfl
theorem nx3 : NextAt p w os f1 f2 f3 f4 X tk 3 K := by unfold NextAt; rw [Fast.te10295753902157049106, Fast.te14364793385576792824]; kernel_rfl
theorem nx4 : NextAt p w os f1 f2 f3 f4 X tk 4 K := by unfold NextAt; rw [Fast.te10295753902157049106, Fast.te14364793385576792824]; kernel_rfl
theorem nx5 : NextAt p w os f1 f2 f3 f4 X tk 5 K := by unfold NextAt; rw [Fast.te10295753902157049106, Fast.te14364793385576792824]; kernel_rfl
theorem nx6 : NextAt p w os f1 f2 f3 f4 X tk 6 K := by unfold NextAt; rw [Fast.te10295753902157049106, Fast.te14364793385576792824]; kernel_rfl
theorem nx7 : NextAt p w os f1 f2 f3 f4 X tk 7 K := by unfold NextAt; rw [Fast.te10295753902157049106, Fast.te14364793385576792824]; kernel_rfl
theorem nx8 : NextAt p w os f1 f2 f3 f4 X tk 8 K := by unfold NextAt; rw [Fast.te10295753902157049106, Fast.te14364793385576792824]; kernel_rfl
theorem nx9 : NextAt p w os f1 f2 f3 f4 X tk 9 K := by unfold NextAt; rw [Fast.te10295753902157049106, Fast.te14364793385576792824]; kernel_rfl
theorem nx10 : NextAt p w os f1 f2 f3 f4 X tk 10 K := by unfold NextAt; rw [Fast.te10295753902157049106, Fast.te14364793385576792824]; kernel_rfl
theorem nx11 : NextAt p w os f1 f2 f3 f4 X tk 11 K := by unfold NextAt; rw [Fast.te10295753902157049106, Fast.te14364793385576792824]; kernel_rfl
theorem nx12 : NextAt p w os f1 f2 f3 f4 X tk 12 K := by unfold NextAt; rw [Fast.te10295753902157049106, Fast.te14364793385576792824]; kernel_rfl
theorem nx13 : NextAt p w os f1 f2 f3 f4 X tk 13 K := by unfold NextAt; rw [Fast.te10295753902157049106, Fast.te14364793385576792824]; kernel_rfl
theorem nx14 : NextAt p w os f1 f2 f3 f4 X tk 14 K := by unfold NextAt; rw [Fast.te10295753902157049106, Fast.te14364793385576792824]; kernel_rfl
theorem nx15 : NextAt p w os f1 f2 f3 f4 X tk 15 K := by unfold NextAt; rw [Fast.te10295753902157049106, Fast.te14364793385576792824]; kernel_rfl
theorem nx16 : NextAt p w os f1 f2 f3 f4 X tk 16 K := by unfold NextAt; rw [Fast.te10295753902157049106, Fast.te14364793385576792824]; kernel_rfl
theorem nx17 : NextAt p w os f1 f2 f3 f4 X tk 17 K := by unfold NextAt; rw [Fast.te10295753902157049106, Fast.te14364793385576792824]; kernel_rfl
theorem nx18 : NextAt p w os f1 f2 f3 f4 X tk 18 K := by unfold NextAt; rw [Fast.te10295753902157049106, Fast.te14364793385576792824]; kernel_rfl
theorem nx19 : NextAt p w os f1 f2 f3 f4 X tk 19 K := by unfold NextAt; rw [Fast.te10295753902157049106, Fast.te14364793385576792824]; kernel_rfl
theorem nx20 : NextAt p w os f1 f2 f3 f4 X tk 20 K := by unfold NextAt; rw [Fast.te10295753902157049106, Fast.te14364793385576792824]; kernel_rfl
theorem nx21 : NextAt p w os f1 f2 f3 f4 X tk 21 K := by unfold NextAt; rw [Fast.te10295753902157049106, Fast.te14364793385576792824]; kernel_rfl
theorem nx_all : ∀ i, i < 22 → NextAt p w os f1 f2 f3 f4 X tk i K
  | 0, _ => nx0 p w os f1 f2 f3 f4 X tk K
  | 1, _ => nx1 p w os f1 f2 f3 f4 X tk K
  | 2, _ => nx2 p w os f1 f2 f3 f4 X tk K
  | 3, _ => nx3 p w os f1 f2 f3 f4 X tk K
  | 4, _ => nx4 p w os f1 f2 f3 f4 X tk K
  | 5, _ => nx5 p w os f1 f2 f3 f4 X tk K
  | 6, _ => nx6 p w os f1 f2 f3 f4 X tk K
  | 7, _ => nx7 p w os f1 f2 f3 f4 X tk K
  | 8, _ => nx8 p w os f1 f2 f3 f4 X tk K
  | 9, _ => nx9 p w os f1 f2 f3 f4 X tk K
  | 10, _ => nx10 p w os f1 f2 f3 f4 X tk K
  | 11, _ => nx11 p w os f1 f2 f3 f4 X tk K
  | 12, _ => nx12 p w os f1 f2 f3 f4 X tk K
  | 13, _ => nx13 p w os f1 f2 f3 f4 X tk K
  | 14, _ => nx14 p w os f1 f2 f3 f4 X tk K
  | 15, _ => nx15 p w os f1 f2 f3 f4 X tk K
  | 16, _ => nx16 p w os f1 f2 f3 f4 X tk K
  | 17, _ => nx17 p w os f1 f2 f3 f4 X tk K
  | 18, _ => nx18 p w os f1 f2 f3 f4 X tk K
  | 19, _ => nx19 p w os f1 f2 f3 f4 X tk K
  | 20, _ => nx20 p w os f1 f2 f3 f4 X tk K
  | 21, _ => nx21 p w os f1 f2 f3 f4 X tk K
  | n + 22, h => absurd h (by omega)
noncomputable abbrev HashAt (p : Program) (os : OsState) (f1 f2 f3 f4 : Frame) (X : Obj) (tk i tk' : Nat) (c : Str) (K : Int → Sem Fin) (w : World) : Prop :=
  segGoT treeTable p w 11 annF 1 7 (L w os X i tk) (thr ((pyHash (.str c tk')).bind K) f1 f2 f3 f4) = some (L w os X i (tk + 1), thr (K (PyData.keyHash w.params c)) f1 f2 f3 f4)
theorem ph (i tk' : Nat) (c : Str) (K : Int → Sem Fin) : HashAt p os f1 f2 f3 f4 X tk i tk' c K w :=
  byRow2 "special-get-raises" (P := HashAt p os f1 f2 f3 f4 X tk i tk' c K) (fun w => by unfold HashAt; rw [Fast.te10295753902157049106, Fast.te14364793385576792824]; kernel_rfl) (fun w => by unfold HashAt; rw [Fast.te10295753902157049106, Fast.te14364793385576792824]; kernel_rfl) w
end
end Mine
end
section
open PySem PySem.W PyProof.Rows
namespace Mine
noncomputable def KN : Option Value → Sem Fin
  | some x => (holding [x] (setAdd 168 x)).bind fun _ => again loopC
  | none => ret .none
theorem den_loop1 : denote treeTable loopC = PySem.Builtin.«set.update.loop» ⟨[.ref 168, .ref 169], []⟩ := by kernel_rfl
theorem den_loop2 : PySem.Builtin.«set.update.loop» ⟨[.ref 168, .ref 169], []⟩ = (pyNext (.ref 169)).bind KN := by
  unfold PySem.Builtin.«set.update.loop»
  dsimp only
  show Sem.bind _ _ = _
  congr 1
  funext o
  cases o
  · rfl
  · rfl
theorem den_loop : denote treeTable loopC = (pyNext (.ref 169)).bind KN := den_loop1.trans den_loop2
theorem KN_some (c : Str) (ck : Tok) : KN (some (.str c ck)) = (pyHash (.str c ck)).bind fun hh => (setAddHashed 168 (.str c ck) hh).bind fun _ => again loopC := by
  show Sem.bind (Sem.bind (pyHash (.str c ck)) fun hh => setAddHashed 168 (.str c ck) hh) _ = _
  rw [Sem.bind_assoc]
noncomputable abbrev Th (f1 f2 f3 f4 : Frame) : Thread := thr (denote treeTable loopC) f1 f2 f3 f4
theorem again_loop (p : Program) (w : World) (S : SharedT) (f1 f2 f3 f4 : Frame) : segGoT treeTable p w 11 annF 1 1 S (thr (again loopC) f1 f2 f3 f4) = some (S, Th f1 f2 f3 f4) := by kernel_rfl
/-- the entries after the first i signs, in the order in which they came -/
noncomputable def hexEs (P : Params) (i : Nat) : List (Int × Value) := (List.range i).map fun j => (PyData.keyHash P (hx j), Value.str (hx j) (426 + 2 * j))
theorem hx_ne : ∀ i, i < 22 → ∀ j, j < i → (hx j == hx i) = false := by decide +kernel
structure HexGood (P : Params) (i : Nat) (es : Array (Int × Value)) (t : SetTable) : Prop where
  fits : t.fits es.size = true
  perm : List.Perm es.toList (hexEs P i)
section
variable {p : Program} {w : World} {os : OsState} {f1 f2 f3 f4 : Frame}
theorem HexGood.size {P : Params} {i : Nat} {es : Array (Int × Value)} {t : SetTable} (h : HexGood P i es t) : es.size = i := by
  have := h.perm.length_eq
  rw [Array.length_toList, hexEs, List.length_map, List.length_range] at this
  exact this
theorem HexGood.mem {P : Params} {i : Nat} {es : Array (Int × Value)} {t : SetTable} (h : HexGood P i es t) : ∀ e ∈ es.toList, ∃ j, j < i ∧ e = (PyData.keyHash P (hx j), Value.str (hx j) (426 + 2 * j)) := fun e he => by
  have := h.perm.mem_iff.mp he
  rw [hexEs, List.mem_map] at this
  obtain ⟨j, hj, rfl⟩ := this
  exact ⟨j, List.mem_range.mp hj, rfl⟩
theorem turn {i tk : Nat} (hi : i < 22) (htk : tk = 426 + 2 * i) {es : Array (Int × Value)} {ep : Nat} {t : SetTable} (h : HexGood w.params i es t) :
    ∃ n, n ≤ 30 ∧ ∃ es' ep' t', HexGood w.params (i + 1) es' t' ∧
      segGoT treeTable p w 11 annF 1 n (L w os (hexO es ep t) i tk) (Th f1 f2 f3 f4) = some (L w os (hexO es' ep' t') (i + 1) (tk + 2), Th f1 f2 f3 f4) := by
  subst htk
  have hsz := h.size
  have hscan : byScan (.str (hx i) (426 + 2 * i)) es = true := by
    unfold byScan
    simp only [Bool.and_eq_true, decide_eq_true_eq]
    refine ⟨⟨rfl, by rw [hsz]; unfold scanBound; omega⟩, ?_⟩
    rw [← Array.all_toList, List.all_eq_true]
    intro e he
    obtain ⟨j, _, rfl⟩ := h.mem e he
    rfl
  have hnone : es.findIdx? (fun e => e.2.isStr (hx i)) = none := by
    rw [Array.findIdx?_eq_none_iff]
    intro e he
    obtain ⟨j, hj, rfl⟩ := h.mem e (Array.mem_toList_iff.mpr he)
    exact hx_ne i hi j hj
  have hstr : es.all (fun e => isExactStrKey e.2) = true := by
    rw [← Array.all_toList, List.all_eq_true]
    intro e he
    obtain ⟨j, _, rfl⟩ := h.mem e he
    rfl
  have hz : es.size + 1 ≤ sizeLine := by rw [hsz, sizeLine_eq]; omega
  have e1 := nx_all p w os f1 f2 f3 f4 (hexO es ep t) (426 + 2 * i) KN i hi
  have e2 := ph p w os f1 f2 f3 f4 (hexO es ep t) (426 + 2 * i + 1) (i + 1) (426 + 2 * i) (hx i) fun hh => (setAddHashed 168 (.str (hx i) (426 + 2 * i)) hh).bind fun _ => again loopC
  have e3 := goes_add (p := p) (f1 := f1) (f2 := f2) (f3 := f3) (f4 := f4) (w := w) (os := os) (i := i + 1) (tk := 426 + 2 * i + 1 + 1) (ep := ep) (c := hx i) (ck := 426 + 2 * i) (h := PyData.keyHash w.params (hx i))
    (Q := fun b S' => ∃ es' ep' t', HexGood w.params (i + 1) es' t' ∧ S' = L w os (hexO es' ep' t') (i + 1) (426 + 2 * i + 1 + 1)) h.fits hscan hnone hstr hz
    (fun es' ep' t' hp hf => ⟨es', ep', t', ⟨hf, hp.trans (by
      rw [Array.toList_push, hexEs, List.range_succ, List.map_append]
      exact List.Perm.append_right _ h.perm)⟩, rfl⟩)
  obtain ⟨n, hn, b, S', ⟨es', ep', t', hg, rfl⟩, e4⟩ := e3 fun _ => again loopC
  refine ⟨10 + (7 + (n + 1)), by omega, es', ep', t', hg, ?_⟩
  refine segGoT_add (by unfold Th; rw [den_loop]; exact e1) ?_
  rw [KN_some]
  refine segGoT_add e2 ?_
  exact segGoT_add e4 (again_loop _ _ _ _ _ _ _)
theorem turns : ∀ k, k ≤ 22 → ∀ {es : Array (Int × Value)} {ep : Nat} {t : SetTable}, HexGood w.params (22 - k) es t →
    ∃ n, n ≤ 30 * k ∧ ∃ es' ep' t', HexGood w.params 22 es' t' ∧
      segGoT treeTable p w 11 annF 1 n (L w os (hexO es ep t) (22 - k) (426 + 2 * (22 - k))) (Th f1 f2 f3 f4) = some (L w os (hexO es' ep' t') 22 470, Th f1 f2 f3 f4)
  | 0, _, es, ep, t, h => ⟨0, Nat.le_refl _, es, ep, t, h, rfl⟩
  | k + 1, hk, es, ep, t, h => by
    obtain ⟨n, hn, es1, ep1, t1, h1, e1⟩ := turn (p := p) (os := os) (f1 := f1) (f2 := f2) (f3 := f3) (f4 := f4) (i := 22 - (k + 1)) (ep := ep) (by omega) rfl h
    have hi : 22 - (k + 1) + 1 = 22 - k := by omega
    rw [hi] at h1 e1
    obtain ⟨n2, hn2, es2, ep2, t2, h2, e2⟩ := turns k (by omega) (ep := ep1) h1
    refine ⟨n + n2, by omega, es2, ep2, t2, h2, segGoT_add e1 ?_⟩
    rw [show 426 + 2 * (22 - (k + 1)) + 2 = 426 + 2 * (22 - k) by omega]
    exact e2
end
end Mine
end
section
open PySem PySem.W PyProof.Rows
namespace Mine
noncomputable def st42s : List Stmt := (pwF.main.body.drop 42).take 1
noncomputable def T0 (b : List Stmt) : Thread := piecesOf st42s env1 (Code.body b env1) pos41 BB
noncomputable def stk (p : Program) (w : World) (os : OsState) (b : List Stmt) : List Frame := match segGoT treeTable p w 11 annF 1 20 (S168 w os) (T0 b) with
  | some (_, t) => t.stack
  | none => []
noncomputable def fr (p : Program) (w : World) (os : OsState) (b : List Stmt) (j : Nat) : Frame := (stk p w os b).getD j (.gen 0 (fun _ => .raise .none) [] default default)
noncomputable abbrev Start (p : Program) (os : OsState) (b : List Stmt) (w : World) : Prop :=
  segGoT treeTable p w 11 annF 1 20 (S168 w os) (T0 b) = some (L w os (hexO #[] 0 (SetTable.fresh 0 0 (!w.params.followText "set-order"))) 0 426, Th (fr p w os b 0) (fr p w os b 1) (fr p w os b 2) (fr p w os b 3))
noncomputable abbrev Exit (p : Program) (os : OsState) (b : List Stmt) (es : Array (Int × Value)) (ep : Nat) (t : SetTable) (w : World) : Prop :=
  segRunT treeTable p w 11 annF 1 34 (L w os (hexO es ep t) 22 470) (Th (fr p w os b 0) (fr p w os b 1) (fr p w os b 2) (fr p w os b 3)) = some (Flow.next, S173 w os (hexO es ep t) itEnd tupE stopE, Code.body b env1, pos42)
set_option maxHeartbeats 0 in
theorem start_ok (p : Program) (os : OsState) (b : List Stmt) (w : World) : Start p os b w := byRow2 "special-get-raises" (P := Start p os b) (fun w => by kernel_rfl) (fun w => by kernel_rfl) w
set_option maxHeartbeats 0 in
theorem exit_ok (p : Program) (os : OsState) (b : List Stmt) (es : Array (Int × Value)) (ep : Nat) (t : SetTable) (w : World) : Exit p os b es ep t w := byRow2 "special-get-raises" (P := Exit p os b es ep t) (fun w => by unfold Exit; rw [Fast.te10110043849684766642, Fast.te14364793385576792824]; kernel_rfl) (fun w => by unfold Exit; rw [Fast.te10110043849684766642, Fast.te14364793385576792824]; kernel_rfl) w
end Mine
end
section
open PySem PySem.W PyProof.Rows
namespace Mine
theorem piece42 (p : Program) (w : World) (os : OsState) (b : List Stmt) : ∃ n, n ≤ 800 ∧ ∃ es ep t, HexGood w.params 22 es t ∧
    segRunT treeTable p w 11 annF 1 n (S168 w os) (T0 b) = some (Flow.next, S173 w os (hexO es ep t) itEnd tupE stopE, Code.body b env1, pos42) := by
  obtain ⟨n, hn, es, ep, t, hg, e⟩ := turns (p := p) (w := w) (os := os) (f1 := fr p w os b 0) (f2 := fr p w os b 1) (f3 := fr p w os b 2) (f4 := fr p w os b 3) 22 (Nat.le_refl _)
    (es := #[]) (ep := 0) (t := SetTable.fresh 0 0 (!w.params.followText "set-order")) ⟨rfl, List.Perm.refl _⟩
  exact ⟨20 + (n + 34), by omega, es, ep, t, hg, segGoT_run (start_ok p os b w) (segGoT_run e (exit_ok p os b es ep t w))⟩
theorem top_end (p : Program) (w : World) (b : List Stmt) (s : Shared) : topRun treeTable p w 11 annF 2 s (restOf [] env1 (Code.body b env1) posE BB) = some s := by
  obtain ⟨heap, gens, drawn, toks, os⟩ := s
  rfl
noncomputable abbrev bodyF : List Stmt := behindTheImports pwF
set_option maxHeartbeats 0 in
theorem body_parts : bodyF = stA ++ (st42s ++ (stC ++ [])) := by kernel_rfl
set_option maxHeartbeats 0 in
theorem top_pre (w : World) (os : OsState) : topGo treeTable pwF w 11 annF 12 ⟨boot_heap w.params, Array.mk [], boot_drawn, boot_toks, os⟩ (topStub pwF) = some ((Sb w os).abs, ⟨denote treeTable (.body bodyF env1), .body bodyF env1, pos0, BB⟩) := by kernel_rfl
set_option maxHeartbeats 0 in
theorem top_block (w : World) (os : OsState) : segRun treeTable pwF w 11 annF 1 1 (Sb w os).abs (blockOf bodyF env1 (.body bodyF env1) pos0 BB) = some (Flow.next, (Sb w os).abs, .body bodyF env1, pos0) := by kernel_rfl
theorem top_run (w : World) (os : OsState) : ∃ es ep t, HexGood w.params 22 es t ∧
    topRun treeTable pwF w 11 annF 5000 ⟨boot_heap w.params, Array.mk [], boot_drawn, boot_toks, os⟩ (topStub pwF) = some (Sfin w os es ep t) := by
  obtain ⟨n, hn, es, ep, t, hg, e⟩ := piece42 pwF w os bodyF
  refine ⟨es, ep, t, hg, ?_⟩
  have k0 := top_end pwF w bodyF (S265 w os (hexO es ep t) itEnd tupE stopE).abs
  have k1 := piece_app (l := stC) (rest := []) (q := pos0) (segRun_of (gC w pwF bodyF os (hexO es ep t) itEnd tupE stopE)) k0
  have k3 := piece_app (l := st42s) (rest := stC ++ []) (q := pos0) (segRun_of e) k1
  have k4 := piece_app (l := stA) (rest := st42s ++ (stC ++ [])) (q := pos0) (segRun_of (gA w pwF bodyF os)) k3
  rw [← body_parts] at k4
  have k5 := piece_block (q := pos0) (top_block w os) k4
  have k6 := go_top (top_pre w os) k5
  rw [abs265] at k6
  have := topRun_mono (5000 - (12 + (1 + (1264 + (n + (537 + 2)))))) _ _ _ _ k6
  rw [show (12 + (1 + (1264 + (n + (537 + 2))))) + (5000 - (12 + (1 + (1264 + (n + (537 + 2)))))) = 5000 by omega] at this
  exact this
end Mine
end
section
open PySem PySem.W PyProof.Rows
namespace Mine
theorem size1 (P : Params) : ((boot_heap P).isNs mainGlobals && (Array.mk ([] : List GenState)).size == 0) = true := by kernel_rfl
theorem size2 (P : Params) : (boot_heap P).objs.size = 11 := by kernel_rfl
theorem size3 (P : Params) : (boot_heap P).nsMap mainGlobals "__annotations__" = annF := by kernel_rfl
theorem opening_eq : opening pwF = plainProg pwF.main.scope.names := by kernel_rfl
theorem asF_eq (P : Params) : asF = (KF P).map (·.1) := by kernel_rfl
theorem asX_eq (P : Params) : asX = (KXF P).map (·.1) := by kernel_rfl
noncomputable abbrev tsF : List Addr := [200]
noncomputable abbrev hookF : Hook := kmHook KF asF asF_eq tsF
noncomputable abbrev YTy := ((List (Option Obj) × List (Option Obj)) × List (Option Obj)) × Option Obj
noncomputable def YfF (s : Shared) : YTy := (((asF.map s.heap.get?, tsF.map s.heap.get?), asX.map s.heap.get?), s.heap.get? 168)
set_option maxHeartbeats 0 in
theorem look3 (w : World) (os : OsState) (es : Array (Int × Value)) (ep : Nat) (t : SetTable) :
    YfF (Sfin w os es ep t) = ((((KF w.params).map fun p => some p.2, tsF.map fun _ => some (tabObj #[])), (KXF w.params).map fun p => some p.2), some (hexO es ep t)) := by kernel_rfl
theorem topFrom_of {tb : String → Option Builtin} {p : Program} {w : World} {N n : Nat} {a : Option Value} {s₀ s₁ : Shared} (h1 : (s₀.heap.isNs mainGlobals && s₀.gens.size == 0) = true) (h2 : s₀.heap.objs.size = n) (h3 : s₀.heap.nsMap mainGlobals "__annotations__" = a)
    (hr : topRun tb p w n a N s₀ (topStub p) = some s₁) (h4 : (staticsOk (importedModules p.main.body) s₀.heap s₁.heap && namesBound p s₁.heap && gensDone s₁ && laidKept s₀.heap s₁.heap) = true) : topFrom tb p w N s₀ = some s₁ := by
  subst h2 h3
  unfold topFrom
  rw [h1]
  dsimp only
  rw [hr]
  dsimp only [Option.bind_some]
  rw [h4]
theorem openEnds_of {tb : String → Option Builtin} {p : Program} {w : World} {N : Nat} {s₀ s₁ : Shared} (h : fencedOpening tb p w N = some s₀) (h2 : topFrom tb p w N s₀ = some s₁) : openEnds tb p w N = some s₁ := by
  unfold openEnds
  rw [h, Option.bind_some, h2]
noncomputable def SaysY (w : World) (y : YTy) : Prop :=
  y.1 = (((KF w.params).map fun p => some p.2, tsF.map fun _ => some (tabObj #[])), (KXF w.params).map fun p => some p.2) ∧ ∃ es ep t, HexGood w.params 22 es t ∧ y.2 = some (hexO es ep t)
theorem head_ex (w : World) : ∃ y, SaysY w y ∧ (openEnds treeTable pwF w 5000).map (fun s => (openSeen viewF looseF (importedModules pwF.main.body) XtF true s, YfF s)) = some (openGood viewF looseF, y) := by
  obtain ⟨s, hs, hv⟩ := Option.map_eq_some_iff.mp (boot_open (p := pwF) (N := 5000) opening_eq rfl (fun s => rfl) w)
  obtain ⟨h, gs, d, k, os⟩ := s
  simp only [Prod.mk.injEq] at hv
  obtain ⟨rfl, rfl, rfl, rfl⟩ := hv
  obtain ⟨es, ep, t, hg, hr⟩ := top_run w os
  refine ⟨YfF (Sfin w os es ep t), ⟨?_, es, ep, t, hg, ?_⟩, ?_⟩
  rotate_left 2
  · rw [openEnds_of hs (topFrom_of (size1 w.params) (size2 w.params) (size3 w.params) hr (look1 w os es ep t)), Option.map_some, look2]
  · exact congrArg (·.1) (look3 w os es ep t)
  · exact congrArg (·.2) (look3 w os es ep t)
noncomputable def YaF (w : World) : YTy := Classical.choose (head_ex w)
theorem YaF_says (w : World) : SaysY w (YaF w) := (Classical.choose_spec (head_ex w)).1
theorem leftF : LeftO pwF viewF looseF XtF YfF YaF 5000 := fun w => (Classical.choose_spec (head_ex w)).2
/-- what the head tells of the set of hex signs -/
noncomputable def HexAt (w : World) (h : Heap) : Prop := ∃ es ep t, HexGood w.params 22 es t ∧ h.get? 168 = some (hexO es ep t)
noncomputable def XAt (w : World) (h : Heap) : Prop := InK KXF w h ∧ HexAt w h
theorem XAt.keeps {w : World} {h h' : Heap} (x : XAt w h) (k : ∀ b o, h.get? b = some o → h'.get? b = some o) : XAt w h' := by
  obtain ⟨h1, es, ep, t, hg, h2⟩ := x
  exact ⟨h1.keeps w h h' k, es, ep, t, hg, k _ _ h2⟩
noncomputable def YPF (w : World) (h : Heap) : Prop := hookF.says w h ∧ XAt w h
theorem YPF_of (w : World) (s : Shared) (e : YfF s = YaF w) : YPF w s.heap := by
  obtain ⟨h1, es, ep, t, hg, h2⟩ := YaF_says w
  rw [← e] at h1 h2
  obtain ⟨h1, h3⟩ := Prod.mk.inj h1
  exact ⟨hookF.of w s h1, InK.of asX_eq w s h3, es, ep, t, hg, h2⟩
theorem YPF_keeps (w : World) (h h' : Heap) (x : YPF w h) (k : ∀ b o, h.get? b = some o → h'.get? b = some o) : YPF w h' := by
  obtain ⟨h1, h2⟩ := x
  exact ⟨hookF.keeps w h h' h1 k, h2.keeps k⟩
end Mine
end
section
open PySem PySem.W PyProof.Rows
namespace Mine
noncomputable abbrev PF : Program := PySem.Challenge.rw_rt0072_01.row.prog
noncomputable abbrev KpH (h h' : Heap) : Prop := ∀ b o, h.get? b = some o → h'.get? b = some o

theorem len1 {α : Type} {l : List α} (h : l.length = 1) : ∃ a, l = [a] := List.length_eq_one_iff.mp h
theorem len2 {α : Type} : ∀ {l : List α}, l.length = 2 → ∃ a b, l = [a, b]
  | [a, b], _ => ⟨a, b, rfl⟩
theorem len3 {α : Type} : ∀ {l : List α}, l.length = 3 → ∃ a b c, l = [a, b, c]
  | [a, b, c], _ => ⟨a, b, c, rfl⟩
theorem len4 {α : Type} : ∀ {l : List α}, l.length = 4 → ∃ a b c d, l = [a, b, c, d]
  | [a, b, c, d], _ => ⟨a, b, c, d, rfl⟩
theorem kp_refl (s : Shared) : Keeps s s := ⟨s.heap, s.toks, rfl, fun _ _ e => e⟩
theorem kp_trans {s s' s'' : Shared} (a : Keeps s s') (b : Keeps s' s'') : Keeps s s'' := by
  obtain ⟨h, tk, rfl, k⟩ := a
  obtain ⟨h', tk', rfl, k'⟩ := b
  exact ⟨h', tk', rfl, fun b o e => k' b o (k b o e)⟩
theorem kp_heap {s s' : Shared} (a : Keeps s s') : KpH s.heap s'.heap := by obtain ⟨h, tk, rfl, k⟩ := a; exact k
theorem kp_toks (s : Shared) (n : Nat) : Keeps s { s with toks := n } := ⟨s.heap, n, rfl, fun _ _ e => e⟩

/-- plain data of the program -/
inductive PV
  | int (i : Int) | str (x : Str) | bool (b : Bool) | none | val (v : Value) | list (l : List PV) | plist (l : List PV) | tup (l : List PV)

mutual
noncomputable def Rep (h : Heap) : PV → Value → Prop
  | .int i, v => ∃ t, v = .int i t
  | .str x, v => ∃ t, v = .str x t
  | .bool b, v => v = .bool b
  | .none, v => v = .none
  | .val u, v => v = u
  | .list l, v => ∃ a vs, v = .ref a ∧ h.IsList a vs ∧ RepL h l vs.toList
  | .plist l, v => ∃ a vs, v = .ref a ∧ h.PlainList a vs ∧ RepL h l vs.toList
  | .tup l, v => ∃ a vs, v = .ref a ∧ (∃ n, h.get? a = some { cls := .type "tuple", data := .seq vs n }) ∧ RepL h l vs.toList
noncomputable def RepL (h : Heap) : List PV → List Value → Prop
  | [], vs => vs = []
  | p :: ps, vs => ∃ v vs', vs = v :: vs' ∧ Rep h p v ∧ RepL h ps vs'
end

mutual
theorem Rep.keeps {h h' : Heap} (k : KpH h h') : ∀ (p : PV) {v : Value}, Rep h p v → Rep h' p v
  | .int _, _, x => by simpa only [Rep] using x
  | .str _, _, x => by simpa only [Rep] using x
  | .bool _, _, x => by simpa only [Rep] using x
  | .none, _, x => by simpa only [Rep] using x
  | .val _, _, x => by simpa only [Rep] using x
  | .list l, _, x => by
    simp only [Rep] at x ⊢
    obtain ⟨a, vs, e, p, r⟩ := x
    exact ⟨a, vs, e, p.at fun o e => k _ _ e, RepL.keeps k l r⟩
  | .plist l, _, x => by
    simp only [Rep] at x ⊢
    obtain ⟨a, vs, e, p, r⟩ := x
    exact ⟨a, vs, e, p.at fun o e => k _ _ e, RepL.keeps k l r⟩
  | .tup l, _, x => by
    simp only [Rep] at x ⊢
    obtain ⟨a, vs, e, ⟨n, p⟩, r⟩ := x
    exact ⟨a, vs, e, ⟨n, k _ _ p⟩, RepL.keeps k l r⟩
theorem RepL.keeps {h h' : Heap} (k : KpH h h') : ∀ (l : List PV) {vs : List Value}, RepL h l vs → RepL h' l vs
  | [], _, x => by simpa only [RepL] using x
  | p :: ps, _, x => by
    simp only [RepL] at x ⊢
    obtain ⟨v, vs', e, r, rs⟩ := x
    exact ⟨v, vs', e, Rep.keeps k p r, RepL.keeps k ps rs⟩
end

noncomputable def Lv (d : Nat) (A : Around) : Prop := A.handled = none ∧ A.depth + d ≤ 900 ∧ A.units + 10 * d ≤ 9000
theorem Lv.deeper {d : Nat} {A : Around} (h : Lv (d + 1) A) (env : Env) : Lv d (A.deeper env) := by
  obtain ⟨h1, h2, h3⟩ := h
  exact ⟨h1, by show A.depth + 1 + d ≤ 900; omega, by show A.units + 3 + 10 * d ≤ 9000; omega⟩
theorem Lv.less {d e : Nat} {A : Around} (h : Lv d A) (he : e ≤ d) : Lv e A := ⟨h.1, by have := h.2.1; omega, by have := h.2.2; omega⟩
theorem Lv.in1 {d : Nat} {A : Around} (h : Lv (d + 1) A) : Lv d A.in1 := by
  obtain ⟨h1, h2, h3⟩ := h
  exact ⟨h1, by show A.depth + d ≤ 900; omega, by show A.units + 1 + 10 * d ≤ 9000; omega⟩
theorem Lv.room {d : Nat} {A : Around} (h : Lv d A) : A.depth < recursionLimit := by have := h.2.1; unfold recursionLimit; omega

structure Inv where
  P : Shared → Prop
  mono : ∀ s s', P s → Keeps s s' → P s'

section
variable (w : World) (A : Around)
noncomputable abbrev No : Value → Shared → Prop := fun _ _ => False
/-- a pure computation gives pv -/
noncomputable def Pu (c : Sem Value) (s : Shared) (pv : PV) : Prop := wpAny (model PF w) A c (fun v s' => Rep s'.heap pv v ∧ Keeps s s') No s
noncomputable def PuB (c : Sem Bool) (s : Shared) (b : Bool) : Prop := wpAny (model PF w) A c (fun v s' => v = b ∧ Keeps s s') No s
noncomputable def EV (env : Env) (I : Inv) (e : Expr) (pv : PV) : Prop := ∀ s, I.P s → Pu w A (eval e env) s pv
noncomputable def EB (env : Env) (I : Inv) (e : Expr) (b : Bool) : Prop := ∀ s, I.P s → PuB w A (isTrue e env (eval e env)) s b
noncomputable def SX (env : Env) (I : Inv) (ss : List Stmt) (R : Flow → Shared → Prop) : Prop := ∀ s, I.P s → wpAny (model PF w) A (execs ss env) R No s
end

section
variable {w : World} {A : Around} {env : Env} {I : Inv}

theorem no_mono {α : Type} {c : Sem α} {Q Q' : α → Shared → Prop} {E : Value → Shared → Prop} {s : Shared} (h : wpAny (model PF w) A c Q No s) (hQ : ∀ a s, Q a s → Q' a s) : wpAny (model PF w) A c Q' E s :=
  wpAny_mono h hQ fun _ _ x => x.elim

theorem EV.use {e : Expr} {pv : PV} {s : Shared} {Q : Value → Shared → Prop} {E : Value → Shared → Prop} (h : EV w A env I e pv) (hI : I.P s)
    (hQ : ∀ v s', Rep s'.heap pv v → Keeps s s' → I.P s' → Q v s') : wpAny (model PF w) A (eval e env) Q E s :=
  no_mono (h s hI) fun v s' x => hQ v s' x.1 x.2 (I.mono _ _ hI x.2)
theorem EB.use {e : Expr} {b : Bool} {s : Shared} {Q : Bool → Shared → Prop} {E : Value → Shared → Prop} (h : EB w A env I e b) (hI : I.P s)
    (hQ : ∀ s', Keeps s s' → I.P s' → Q b s') : wpAny (model PF w) A (isTrue e env (eval e env)) Q E s :=
  no_mono (h s hI) fun v s' x => by obtain ⟨rfl, k⟩ := x; exact hQ s' k (I.mono _ _ hI k)

theorem EV.int {i : Int} {k pos} : EV w A env I (.Constant (.int i) k pos) (.int i) := fun s _ =>
  wpAny_Constant_int (Q := fun v s' => Rep s'.heap (.int i) v ∧ Keeps s s') ⟨by simp only [Rep]; exact ⟨_, rfl⟩, kp_toks _ _⟩
theorem EV.str {x : Str} {k pos} : EV w A env I (.Constant (.str x) k pos) (.str x) := fun s _ =>
  Calls.Constant_str (Q := fun v s' => Rep s'.heap (.str x) v ∧ Keeps s s') ⟨by simp only [Rep]; exact ⟨_, rfl⟩, kp_toks _ _⟩
theorem EV.bool {b : Bool} {k pos} : EV w A env I (.Constant (.bool b) k pos) (.bool b) := fun s _ =>
  Constant_bool (Q := fun v s' => Rep s'.heap (.bool b) v ∧ Keeps s s') ⟨by simp only [Rep], kp_refl _⟩
theorem EV.none {k pos} : EV w A env I (.Constant .none k pos) .none := fun s _ =>
  Constant_none (Q := fun v s' => Rep s'.heap .none v ∧ Keeps s s') ⟨by simp only [Rep], kp_refl _⟩

noncomputable def OpV (w : World) (A : Around) (op : Operator) (a b c : PV) : Prop := ∀ s va vb, Rep s.heap a va → Rep s.heap b vb → Pu w A (binaryOp op va vb) s c
noncomputable def IOpV (w : World) (A : Around) (op : Operator) (a b c : PV) : Prop := ∀ s va vb, Rep s.heap a va → Rep s.heap b vb → Pu w A (inplaceOp op va vb) s c
noncomputable def CmpV (w : World) (A : Around) (op : CmpOp) (a b : PV) (c : Bool) : Prop := ∀ s va vb, Rep s.heap a va → Rep s.heap b vb → Pu w A (compareOp op va vb) s (.bool c)

theorem Pu.after {c : Sem Value} {s s' : Shared} {pv : PV} (h : Pu w A c s' pv) (k : Keeps s s') : wpAny (model PF w) A c (fun v s'' => Rep s''.heap pv v ∧ Keeps s s'') No s' :=
  wpAny_mono h (fun _ _ x => ⟨x.1, kp_trans k x.2⟩) fun _ _ x => x
theorem PuB.after {c : Sem Bool} {s s' : Shared} {b : Bool} (h : PuB w A c s' b) (k : Keeps s s') : wpAny (model PF w) A c (fun v s'' => v = b ∧ Keeps s s'') No s' :=
  wpAny_mono h (fun _ _ x => ⟨x.1, kp_trans k x.2⟩) fun _ _ x => x

theorem EV.binop {op : Operator} {l r : Expr} {pos : Pos} {a b c : PV} (hl : EV w A env I l a) (hr : EV w A env I r b) (ho : OpV w A op a b c) : EV w A env I (.BinOp l op r pos) c := fun s hI =>
  wpAny_BinOp (hl.use hI fun va s₁ ra k₁ i₁ => hr.use i₁ fun vb s₂ rb k₂ _ => (ho s₂ va vb (ra.keeps (kp_heap k₂)) rb).after (kp_trans k₁ k₂))
theorem EV.cmp {op : CmpOp} {l r : Expr} {pos : Pos} {a b : PV} {c : Bool} (hl : EV w A env I l a) (hr : EV w A env I r b) (ho : CmpV w A op a b c) (hm : behindInMarks op r = false := by with_unfolding_all rfl) :
    EV w A env I (.Compare l [op] [r] pos) (.bool c) := fun s hI =>
  wpAny_Compare1 (hl.use hI fun va s₁ ra k₁ i₁ => hr.use i₁ fun vb s₂ rb k₂ _ => (ho s₂ va vb (ra.keeps (kp_heap k₂)) rb).after (kp_trans k₁ k₂)) hm
theorem EB.cmp {op : CmpOp} {l r : Expr} {pos : Pos} {a b : PV} {c : Bool} (hl : EV w A env I l a) (hr : EV w A env I r b) (ho : CmpV w A op a b c) (hm : behindInMarks op r = false := by with_unfolding_all rfl) :
    EB w A env I (.Compare l [op] [r] pos) c := fun s hI =>
  wpAny_isTrue_Compare1 (hl.use hI fun va s₁ ra k₁ i₁ => hr.use i₁ fun vb s₂ rb k₂ _ => no_mono (ho s₂ va vb (ra.keeps (kp_heap k₂)) rb) fun v s₃ x => by
    obtain ⟨hv, k₃⟩ := x
    simp only [Rep] at hv
    subst hv
    exact wpAny_truthy_bool ⟨rfl, kp_trans k₁ (kp_trans k₂ k₃)⟩) hm
theorem EB.not {x : Expr} {pos : Pos} {b : Bool} (h : EB w A env I x b) : EB w A env I (.UnaryOp .Not x pos) (!b) := fun s hI =>
  isTrue_not (h.use hI fun s' k _ => ⟨rfl, k⟩)
theorem EB.and_nil {pos : Pos} : EB w A env I (.BoolOp .And [] pos) true := fun s _ => isTrue_and_nil ⟨rfl, kp_refl _⟩
theorem EB.or_nil {pos : Pos} : EB w A env I (.BoolOp .Or [] pos) false := fun s _ => isTrue_or_nil ⟨rfl, kp_refl _⟩
theorem EB.and {x : Expr} {rest : List Expr} {pos : Pos} {b c : Bool} (h : EB w A env I x b) (h' : b = true → EB w A env I (.BoolOp .And rest pos) c) : EB w A env I (.BoolOp .And (x :: rest) pos) (b && c) := fun s hI =>
  isTrue_and (h.use hI fun s' k i => by
    cases b
    · exact ⟨rfl, k⟩
    · exact (h' rfl s' i).after k)
theorem EB.or {x : Expr} {rest : List Expr} {pos : Pos} {b c : Bool} (h : EB w A env I x b) (h' : b = false → EB w A env I (.BoolOp .Or rest pos) c) : EB w A env I (.BoolOp .Or (x :: rest) pos) (b || c) := fun s hI =>
  isTrue_or (h.use hI fun s' k i => by
    cases b
    · exact (h' rfl s' i).after k
    · exact ⟨rfl, k⟩)
theorem EV.ifexp {t a b : Expr} {pos : Pos} {c : Bool} {pv : PV} (ht : EB w A env I t c) (ha : c = true → EV w A env I a pv) (hb : c = false → EV w A env I b pv) : EV w A env I (.IfExp t a b pos) pv := fun s hI =>
  IfExp_ (ht.use hI fun s' k i => by
    cases c
    · exact (hb rfl s' i).after k
    · exact (ha rfl s' i).after k)

/-- what is true of a value -/
noncomputable def TrV (w : World) (A : Around) (a : PV) (b : Bool) : Prop := ∀ s va, Rep s.heap a va → PuB w A (truthy va) s b
theorem EB.plain {e : Expr} {a : PV} {b : Bool} (h : EV w A env I e a) (ht : TrV w A a b) (he : isTrue e env (eval e env) = (do let v ← eval e env; standAt e.pos; holding [v] (truthy v)) := by rfl) : EB w A env I e b := fun s hI =>
  isTrue_plain (h.use hI fun v s' r k _ => (ht s' v r).after k) he
theorem TrV.bool {b : Bool} : TrV w A (.bool b) b := fun s va r => by
  simp only [Rep] at r; subst r; exact wpAny_truthy_bool ⟨rfl, kp_refl _⟩
theorem TrV.int {i : Int} : TrV w A (.int i) (i != 0) := fun s va r => by
  simp only [Rep] at r; obtain ⟨t, rfl⟩ := r; exact truthy_int ⟨rfl, kp_refl _⟩

theorem rep_int {h : Heap} {i : Int} {t : Tok} : Rep h (.int i) (.int i t) := by simp only [Rep]; exact ⟨_, rfl⟩
theorem rep_str {h : Heap} {i : Str} {t : Tok} : Rep h (.str i) (.str i t) := by simp only [Rep]; exact ⟨_, rfl⟩
theorem rep_bool {h : Heap} {i : Bool} : Rep h (.bool i) (.bool i) := by simp only [Rep]

theorem OpV.add_int {a b : Int} : OpV w A .Add (.int a) (.int b) (.int (a + b)) := fun s va vb ra rb => by
  simp only [Rep] at ra rb; obtain ⟨t, rfl⟩ := ra; obtain ⟨u, rfl⟩ := rb
  exact PyProof.Rows.add_int ⟨rep_int, kp_toks _ _⟩
theorem OpV.sub_int {a b : Int} : OpV w A .Sub (.int a) (.int b) (.int (a - b)) := fun s va vb ra rb => by
  simp only [Rep] at ra rb; obtain ⟨t, rfl⟩ := ra; obtain ⟨u, rfl⟩ := rb
  exact PyProof.Rows.sub_int ⟨rep_int, kp_toks _ _⟩
theorem OpV.mul_int {a b : Int} (ha : a.natAbs < 2 ^ 31) (hb : b.natAbs < 2 ^ 31) : OpV w A .Mult (.int a) (.int b) (.int (a * b)) := fun s va vb ra rb => by
  simp only [Rep] at ra rb; obtain ⟨t, rfl⟩ := ra; obtain ⟨u, rfl⟩ := rb
  exact PyProof.Rows.mul_int ⟨rep_int, kp_toks _ _⟩
theorem OpV.mod_int {a b : Int} (hb : b ≠ 0) : OpV w A .Mod (.int a) (.int b) (.int (a.fmod b)) := fun s va vb ra rb => by
  simp only [Rep] at ra rb; obtain ⟨t, rfl⟩ := ra; obtain ⟨u, rfl⟩ := rb
  exact PyProof.Rows.mod_int hb ⟨rep_int, kp_toks _ _⟩
theorem OpV.div_int {a b : Int} (hb : b ≠ 0) (hb2 : b.natAbs < 1073741824) : OpV w A .FloorDiv (.int a) (.int b) (.int (a.fdiv b)) := fun s va vb ra rb => by
  simp only [Rep] at ra rb; obtain ⟨t, rfl⟩ := ra; obtain ⟨u, rfl⟩ := rb
  exact PyProof.Rows.floordiv_int hb ⟨rep_int, kp_toks _ _⟩ (Or.inl (PyProof.noPylong_small hb2))
theorem OpV.pow_int {a b : Int} (ha : a.natAbs < 2 ^ 31) (hb : 0 ≤ b) (hb2 : b ≤ 1000) : OpV w A .Pow (.int a) (.int b) (.int (a ^ b.toNat)) := fun s va vb ra rb => by
  simp only [Rep] at ra rb; obtain ⟨t, rfl⟩ := ra; obtain ⟨u, rfl⟩ := rb
  exact PyProof.Rows.pow_int_small hb (by omega) (by omega) ⟨rep_int, kp_toks _ _⟩
theorem OpV.and_int {a b : Int} : OpV w A .BitAnd (.int a) (.int b) (.int (Builtin.bitAnd a b)) := fun s va vb ra rb => by
  simp only [Rep] at ra rb; obtain ⟨t, rfl⟩ := ra; obtain ⟨u, rfl⟩ := rb
  exact PyProof.Rows.and_int ⟨rep_int, kp_toks _ _⟩
theorem OpV.xor_int {a b : Int} : OpV w A .BitXor (.int a) (.int b) (.int (Builtin.bitXor a b)) := fun s va vb ra rb => by
  simp only [Rep] at ra rb; obtain ⟨t, rfl⟩ := ra; obtain ⟨u, rfl⟩ := rb
  exact PyProof.Rows.xor_int ⟨rep_int, kp_toks _ _⟩
theorem IOpV.add_int {a b : Int} : IOpV w A .Add (.int a) (.int b) (.int (a + b)) := fun s va vb ra rb => by
  simp only [Rep] at ra rb; obtain ⟨t, rfl⟩ := ra; obtain ⟨u, rfl⟩ := rb
  exact PyProof.Rows.iadd_int ⟨rep_int, kp_toks _ _⟩
theorem CmpV.eq_int {a b : Int} : CmpV w A .Eq (.int a) (.int b) (a == b) := fun s va vb ra rb => by
  simp only [Rep] at ra rb; obtain ⟨t, rfl⟩ := ra; obtain ⟨u, rfl⟩ := rb
  exact PyProof.Rows.eq_int ⟨rep_bool, kp_refl _⟩
theorem CmpV.ne_int {a b : Int} : CmpV w A .NotEq (.int a) (.int b) (a != b) := fun s va vb ra rb => by
  simp only [Rep] at ra rb; obtain ⟨t, rfl⟩ := ra; obtain ⟨u, rfl⟩ := rb
  exact PyProof.Rows.ne_int ⟨rep_bool, kp_refl _⟩
theorem CmpV.lt_int {a b : Int} : CmpV w A .Lt (.int a) (.int b) (decide (a < b)) := fun s va vb ra rb => by
  simp only [Rep] at ra rb; obtain ⟨t, rfl⟩ := ra; obtain ⟨u, rfl⟩ := rb
  exact PyProof.Rows.lt_int ⟨rep_bool, kp_refl _⟩
theorem CmpV.gt_int {a b : Int} : CmpV w A .Gt (.int a) (.int b) (decide (b < a)) := fun s va vb ra rb => by
  simp only [Rep] at ra rb; obtain ⟨t, rfl⟩ := ra; obtain ⟨u, rfl⟩ := rb
  exact PyProof.Rows.gt_int ⟨rep_bool, kp_refl _⟩
theorem CmpV.le_int {a b : Int} : CmpV w A .LtE (.int a) (.int b) (decide (a ≤ b)) := fun s va vb ra rb => by
  simp only [Rep] at ra rb; obtain ⟨t, rfl⟩ := ra; obtain ⟨u, rfl⟩ := rb
  exact PyProof.Rows.le_int ⟨rep_bool, kp_refl _⟩
theorem CmpV.ge_int {a b : Int} : CmpV w A .GtE (.int a) (.int b) (decide (b ≤ a)) := fun s va vb ra rb => by
  simp only [Rep] at ra rb; obtain ⟨t, rfl⟩ := ra; obtain ⟨u, rfl⟩ := rb
  exact PyProof.Rows.ge_int ⟨rep_bool, kp_refl _⟩

theorem made_str {m : Made} {x : Str} {s : Shared} (h : ∀ (Q : Value → Shared → Prop), (∀ t n, Q (.str x t) { s with toks := n }) → m.post Q s) : m.post (fun v s' => Rep s'.heap (.str x) v ∧ Keeps s s') s :=
  h _ fun t n => ⟨rep_str, kp_toks _ _⟩
end
end Mine
end
section
open PySem PySem.W PyProof.Rows
namespace Mine
/-- no dictionary and no cell at b -/
noncomputable def Solid (h : Heap) (b : Addr) : Prop := ∀ o, h.get? b = some o → (∀ es ep, o.data ≠ .dict es ep) ∧ (∀ v, o.data ≠ .cell v)

/-- a fact of the heap that storing names of env leaves -/
noncomputable def Own (env : Env) (b : Addr) : Prop := b = env.locals ∨ ∃ n, (n, b) ∈ env.cells
noncomputable def Off (env : Env) (ds : List Addr) (Z : Heap → Prop) : Prop :=
  ∃ fp : List Addr, (∀ b ∈ fp, ¬ Own env b ∧ b ∉ ds) ∧ (∀ h, Z h → ∀ b ∈ fp, ∃ o, h.get? b = some o) ∧ ∀ h h', Z h → (∀ b ∈ fp, h'.get? b = h.get? b) → Z h'
noncomputable abbrev Stable (env : Env) (Z : Heap → Prop) : Prop := Off env [] Z
theorem Off.tt {env : Env} {ds : List Addr} : Off env ds (fun _ => True) := ⟨[], by simp, by simp, fun _ _ _ _ => trivial⟩
theorem Stable.tt {env : Env} : Stable env (fun _ => True) := Off.tt
theorem Off.less {env : Env} {ds es : List Addr} {Z : Heap → Prop} (a : Off env ds Z) (h : ∀ d ∈ es, d ∈ ds) : Off env es Z := by
  obtain ⟨f, a1, a2, a3⟩ := a
  exact ⟨f, fun b hb => ⟨(a1 b hb).1, fun x => (a1 b hb).2 (h b x)⟩, a2, a3⟩
theorem Off.and {env : Env} {ds : List Addr} {Z Y : Heap → Prop} (a : Off env ds Z) (b : Off env ds Y) : Off env ds (fun h => Z h ∧ Y h) := by
  obtain ⟨f, a1, a2, a3⟩ := a
  obtain ⟨g, b1, b2, b3⟩ := b
  refine ⟨f ++ g, fun x hx => ?_, fun h z x hx => ?_, fun h h' z k => ⟨a3 h h' z.1 fun x hx => k x (List.mem_append_left _ hx), b3 h h' z.2 fun x hx => k x (List.mem_append_right _ hx)⟩⟩
  · rcases List.mem_append.mp hx with hx | hx
    · exact a1 x hx
    · exact b1 x hx
  · rcases List.mem_append.mp hx with hx | hx
    · exact a2 h z.1 x hx
    · exact b2 h z.2 x hx
theorem Off.keep {env : Env} {ds : List Addr} {Z : Heap → Prop} (a : Off env ds Z) {h h' : Heap} (z : Z h) (k : ∀ b o, h.get? b = some o → h'.get? b = some o) : Z h' := by
  obtain ⟨f, a1, a2, a3⟩ := a
  exact a3 h h' z fun b hb => by obtain ⟨o, e⟩ := a2 h z b hb; rw [e]; exact k b o e
theorem Off.but {env : Env} {ds : List Addr} {Z : Heap → Prop} (a : Off env ds Z) {h h' : Heap} (z : Z h) {c : Addr} (hc : Own env c ∨ c ∈ ds) (k : Heap.SameBut c h h') : Z h' := by
  obtain ⟨f, a1, a2, a3⟩ := a
  exact a3 h h' z fun b hb => k.2 b fun e => hc.elim (fun x => (a1 b hb).1 (e ▸ x)) (fun x => (a1 b hb).2 (e ▸ x))
/-- a change at places that were free -/
theorem Off.fresh {env : Env} {ds : List Addr} {Z : Heap → Prop} (a : Off env ds Z) {g h h' : Heap} (zg : Z g) (z : Z h) {wr : List Addr} (hw : ∀ b ∈ wr, g.get? b = none) (hk : ∀ b o, b ∉ wr → h.get? b = some o → h'.get? b = some o) : Z h' := by
  obtain ⟨f, a1, a2, a3⟩ := a
  refine a3 h h' z fun b hb => ?_
  obtain ⟨o, e⟩ := a2 h z b hb
  rw [e]
  refine hk b o (fun hm => ?_) e
  obtain ⟨o', e'⟩ := a2 g zg b hb
  rw [hw b hm] at e'; cases e'

mutual
theorem Rep.keepsBut {h h' : Heap} (k : ∀ b o, (∀ vs n, o.data = .seq vs n → h.get? b = some o → h'.get? b = some o)) : ∀ (p : PV) {v : Value}, Rep h p v → Rep h' p v
  | .int _, _, x => by simpa only [Rep] using x
  | .str _, _, x => by simpa only [Rep] using x
  | .bool _, _, x => by simpa only [Rep] using x
  | .none, _, x => by simpa only [Rep] using x
  | .val _, _, x => by simpa only [Rep] using x
  | .list l, _, x => by
    simp only [Rep] at x ⊢
    obtain ⟨a, vs, e, ⟨o, ho, hc, n, hd⟩, r⟩ := x
    exact ⟨a, vs, e, ⟨o, k _ _ _ _ hd ho, hc, n, hd⟩, RepL.keepsBut k l r⟩
  | .plist l, _, x => by
    simp only [Rep] at x ⊢
    obtain ⟨a, vs, e, ⟨n, p⟩, r⟩ := x
    exact ⟨a, vs, e, ⟨n, k _ _ _ _ rfl p⟩, RepL.keepsBut k l r⟩
  | .tup l, _, x => by
    simp only [Rep] at x ⊢
    obtain ⟨a, vs, e, ⟨n, p⟩, r⟩ := x
    exact ⟨a, vs, e, ⟨n, k _ _ _ _ rfl p⟩, RepL.keepsBut k l r⟩
theorem RepL.keepsBut {h h' : Heap} (k : ∀ b o, (∀ vs n, o.data = .seq vs n → h.get? b = some o → h'.get? b = some o)) : ∀ (l : List PV) {vs : List Value}, RepL h l vs → RepL h' l vs
  | [], _, x => by simpa only [RepL] using x
  | p :: ps, _, x => by
    simp only [RepL] at x ⊢
    obtain ⟨v, vs', e, r, rs⟩ := x
    exact ⟨v, vs', e, Rep.keepsBut k p r, RepL.keepsBut k ps rs⟩
end

/-- a function's frame -/
structure FIP (w : World) (s0 : Shared) (env : Env) (m cm : List (Str × PV)) (Z : Heap → Prop) (s : Shared) : Prop where
  x : XAt w s0.heap
  kp : Keeps s0 s
  up : s0.heap.objs.size ≤ env.locals
  loc : ∃ mv, s.heap.Ns env.locals mv ∧ ∀ x pv, m.lookup x = some pv → ∃ v, mv x = some v ∧ Rep s.heap pv v
  cel : ∃ cv, Cl env.locals env.cells s.heap cv ∧ ∀ x pv, cm.lookup x = some pv → ∃ v, cv x = some v ∧ Rep s.heap pv v
  z : Z s.heap

theorem own_get {w : World} {s0 : Shared} {env : Env} {m cm : List (Str × PV)} {Z : Heap → Prop} {s : Shared} (F : FIP w s0 env m cm Z s) {b : Addr} {o : Obj} (hb : s.heap.get? b = some o) (hs : (∀ es ep, o.data ≠ .dict es ep) ∧ (∀ v, o.data ≠ .cell v)) (hnd : (env.cells.map (·.1)).Nodup) : ¬ Own env b := by
  rintro (rfl | ⟨n, hn⟩)
  · obtain ⟨mv, ⟨o', es, ep, e, d, _⟩, _⟩ := F.loc
    rw [hb] at e; cases e; exact hs.1 _ _ d
  · obtain ⟨cv, X, _⟩ := F.cel
    obtain ⟨o', e, d⟩ := X.cell n b (lookup_of_mem_nodup hnd hn)
    rw [hb] at e; cases e; exact hs.2 _ d

noncomputable def FI (w : World) (s0 : Shared) (env : Env) (m cm : List (Str × PV)) (Z : Heap → Prop) (hz : Stable env Z) : Inv where
  P := FIP w s0 env m cm Z
  mono := fun s s' F k => by
    have kh := kp_heap k
    refine ⟨F.x, kp_trans F.kp k, F.up, ?_, ?_, hz.keep F.z kh⟩
    · obtain ⟨mv, n, r⟩ := F.loc
      exact ⟨mv, n.keeps kh, fun x pv e => let ⟨v, a, b⟩ := r x pv e; ⟨v, a, b.keeps kh⟩⟩
    · obtain ⟨mv, n, r⟩ := F.cel
      exact ⟨mv, n.keeps kh, fun x pv e => let ⟨v, a, b⟩ := r x pv e; ⟨v, a, b.keeps kh⟩⟩

section
variable {w : World} {A : Around} {env : Env} {s0 : Shared} {m cm : List (Str × PV)} {Z : Heap → Prop} {hz : Stable env Z} {R : Flow → Shared → Prop} {ss : List Stmt}

theorem FIP.weaken {m' : List (Str × PV)} {s : Shared} (F : FIP w s0 env m cm Z s) (h : ∀ p ∈ m', m.lookup p.1 = some p.2) : FIP w s0 env m' cm Z s := by
  refine ⟨F.x, F.kp, F.up, ?_, F.cel, F.z⟩
  obtain ⟨mv, n, r⟩ := F.loc
  exact ⟨mv, n, fun x pv e => r x pv (h (x, pv) (mem_of_lookup e))⟩
theorem FIP.restab {Y : Heap → Prop} {s : Shared} (F : FIP w s0 env m cm Z s) (h : Y s.heap) : FIP w s0 env m cm Y s := ⟨F.x, F.kp, F.up, F.loc, F.cel, h⟩
theorem FIP.xat {s : Shared} (F : FIP w s0 env m cm Z s) : XAt w s.heap := F.x.keeps (kp_heap F.kp)

theorem EV.loc {x : Str} {pos : Pos} {pv : PV} (hx : m.lookup x = some pv) (hl : env.kindOf x = some .local) (hk : env.scope.kind = .function) (hd : (x == ("__debug__" : Str)) = false) :
    EV w A env (FI w s0 env m cm Z hz) (.Name x pos) pv := fun s F => by
  obtain ⟨mv, n, r⟩ := F.loc
  obtain ⟨v, hv, rv⟩ := r x pv hx
  exact wpAny_Name (wpAny_loadName_local hk hl n hv ⟨rv, kp_refl _⟩) hd
theorem EV.cell {x : Str} {c : Addr} {pos : Pos} {pv : PV} (hx : cm.lookup x = some pv) (hl : env.kindOf x = some .cell) (hc : env.cells.lookup x = some c) (hk : env.scope.kind = .function) (hd : (x == ("__debug__" : Str)) = false) :
    EV w A env (FI w s0 env m cm Z hz) (.Name x pos) pv := fun s F => by
  obtain ⟨cv, X, r⟩ := F.cel
  obtain ⟨v, hv, rv⟩ := r x pv hx
  exact wpAny_Name (wpAny_loadName_cell hk hl hc (hv ▸ X.cell x c hc) ⟨rv, kp_refl _⟩) hd

theorem sb_seq {s : Shared} {h' : Heap} {b : Addr} (hs : Heap.SameBut b s.heap h') (hn : ∀ o vs n, s.heap.get? b = some o → o.data ≠ .seq vs n) : ∀ a o, (∀ vs n, o.data = .seq vs n → s.heap.get? a = some o → h'.get? a = some o) := fun a o vs n d e => by
  by_cases hab : a = b
  · subst hab; exact absurd d (hn o vs n e)
  · exact (hs.2 a hab).trans e

theorem SX.store {x : Str} {v : Value} {pv : PV} {s : Shared} {E : Value → Shared → Prop} {Q : Unit → Shared → Prop} (F : FIP w s0 env m cm Z s) (hz : Stable env Z) (r : Rep s.heap pv v) (hl : env.kindOf x = some .local) (hk : env.scope.kind = .function)
    (hQ : ∀ s', FIP w s0 env ((x, pv) :: m) cm Z s' → (∀ b o, ¬ Own env b → s.heap.get? b = some o → s'.heap.get? b = some o) → Q () s') : wpAny (model PF w) A (storeName env x v) Q E s := by
  obtain ⟨mv, n, rr⟩ := F.loc
  obtain ⟨cv, X, rc⟩ := F.cel
  have hnot : ∀ o vs k, s.heap.get? env.locals = some o → o.data ≠ .seq vs k := fun o vs k e d => by
    obtain ⟨o', es, ep, e', d', _⟩ := n
    rw [e] at e'; cases e'; rw [d] at d'; cases d'
  refine wpAny_storeName_local hl n (fun h' hn hs => hQ _ ?_ fun b o hb e => (hs.2 b fun q => hb (.inl q)).trans e) (by rw [hk]; rfl)
  have kb := sb_seq hs hnot
  refine ⟨F.x, ?_, F.up, ⟨_, hn, fun y q e => ?_⟩, ⟨cv, X.sameBut hs (Nat.le_refl _), fun y q e => let ⟨u, a, b⟩ := rc y q e; ⟨u, a, b.keepsBut kb⟩⟩, hz.but F.z (.inl (.inl rfl)) hs⟩
  · obtain ⟨h, tk, rfl, k⟩ := F.kp
    exact ⟨h', _, rfl, fun b o e => (hs.2 b (Nat.ne_of_lt (Nat.lt_of_lt_of_le (Heap.lt_size e) F.up))).trans (k b o e)⟩
  · simp only [List.lookup_cons] at e
    cases hb : y == x with
    | true =>
      rw [hb] at e; cases e
      exact ⟨v, by (try dsimp only); rw [if_pos (eq_of_beq hb)], r.keepsBut kb⟩
    | false =>
      rw [hb] at e
      obtain ⟨u, a, b⟩ := rr y q e
      exact ⟨u, by (try dsimp only); rw [if_neg (beq_eq_false_iff_ne.mp hb)]; exact a, b.keepsBut kb⟩

theorem SX.storeC {x : Str} {c : Addr} {v : Value} {pv : PV} {s : Shared} {E : Value → Shared → Prop} {Q : Unit → Shared → Prop} (F : FIP w s0 env m cm Z s) (hz : Stable env Z) (r : Rep s.heap pv v) (hl : env.kindOf x = some .cell) (hc : env.cells.lookup x = some c) (hk : env.scope.kind = .function)
    (hQ : ∀ s', FIP w s0 env m ((x, pv) :: cm) Z s' → Q () s') : wpAny (model PF w) A (storeName env x v) Q E s := by
  obtain ⟨mv, n, rr⟩ := F.loc
  obtain ⟨cv, X, rc⟩ := F.cel
  have hLc : env.locals < c := X.above x c (mem_of_lookup hc)
  have hnot : ∀ o vs k, s.heap.get? c = some o → o.data ≠ .seq vs k := fun o vs k e d => by
    obtain ⟨o', e', d'⟩ := X.cell x c hc
    rw [e] at e'; cases e'; rw [d] at d'; cases d'
  refine wpAny_storeName_cell hk hl hc (X.cell x c hc) fun h' hv hs => hQ _ ?_
  have kb := sb_seq hs hnot
  refine ⟨F.x, ?_, F.up, ⟨_, n.sameBut hs (Nat.ne_of_lt hLc), fun y q e => let ⟨u, a, b⟩ := rr y q e; ⟨u, a, b.keepsBut kb⟩⟩,
    ⟨fun y => if y = x then some v else cv y, ⟨fun nn c' e => ?_, X.apart, X.above⟩, fun y q e => ?_⟩, hz.but F.z (.inl (.inr ⟨x, mem_of_lookup hc⟩)) hs⟩
  · obtain ⟨h, tk, rfl, k⟩ := F.kp
    exact ⟨h', _, rfl, fun b o e => (hs.2 b (Nat.ne_of_lt (Nat.lt_trans (Nat.lt_of_lt_of_le (Heap.lt_size e) F.up) hLc))).trans (k b o e)⟩
  · by_cases hn : nn = x
    · subst hn; rw [hc] at e; cases e; simpa using hv
    · have hcc : c' ≠ c := fun q => hn (name_of_addr X.apart (mem_of_lookup e) (q ▸ mem_of_lookup hc))
      simpa [hn] using (X.cell nn c' e).sameBut hs hcc
  · simp only [List.lookup_cons] at e
    cases hb : y == x with
    | true =>
      rw [hb] at e; cases e
      exact ⟨v, by (try dsimp only); rw [if_pos (eq_of_beq hb)], r.keepsBut kb⟩
    | false =>
      rw [hb] at e
      obtain ⟨u, a, b⟩ := rc y q e
      exact ⟨u, by (try dsimp only); rw [if_neg (beq_eq_false_iff_ne.mp hb)]; exact a, b.keepsBut kb⟩

theorem SX.nil (h : ∀ s, FIP w s0 env m cm Z s → R .next s) : SX w A env (FI w s0 env m cm Z hz) [] R := fun s F => wpAny_execs_nil (h s F)
theorem SX.assign {x : Str} {p' pos : Pos} {e : Expr} {pv : PV} (he : EV w A env (FI w s0 env m cm Z hz) e pv) (hl : env.kindOf x = some .local) (hk : env.scope.kind = .function)
    (hs : swapsWith e (some (.Name x p')) pos.line env = pure false) (hn : SX w A env (FI w s0 env ((x, pv) :: m) cm Z hz) ss R) : SX w A env (FI w s0 env m cm Z hz) (.Assign [.Name x p'] e pos :: ss) R := fun s F =>
  wpAny_execs_cons (wpAny_Assign_Name (he.use F fun v s' r k F' => SX.store F' hz r hl hk fun s'' F'' _ => hn s'' F'') hs)
theorem SX.assignC {x : Str} {c : Addr} {p' pos : Pos} {e : Expr} {pv : PV} (he : EV w A env (FI w s0 env m cm Z hz) e pv) (hl : env.kindOf x = some .cell) (hc : env.cells.lookup x = some c) (hk : env.scope.kind = .function)
    (hs : swapsWith e (some (.Name x p')) pos.line env = pure false) (hn : SX w A env (FI w s0 env m ((x, pv) :: cm) Z hz) ss R) : SX w A env (FI w s0 env m cm Z hz) (.Assign [.Name x p'] e pos :: ss) R := fun s F =>
  wpAny_execs_cons (wpAny_Assign_Name (he.use F fun v s' r k F' => SX.storeC F' hz r hl hc hk fun s'' F'' => hn s'' F'') hs)
theorem SX.aug {x : Str} {p' pos : Pos} {op : Operator} {e : Expr} {a b c : PV} (ha : m.lookup x = some a) (he : EV w A env (FI w s0 env m cm Z hz) e b) (ho : IOpV w A op a b c) (hl : env.kindOf x = some .local) (hk : env.scope.kind = .function)
    (hn : SX w A env (FI w s0 env ((x, c) :: m) cm Z hz) ss R) : SX w A env (FI w s0 env m cm Z hz) (.AugAssign (.Name x p') op e pos :: ss) R := fun s F => by
  obtain ⟨mv, n, r⟩ := F.loc
  obtain ⟨v, hv, rv⟩ := r x a ha
  exact wpAny_execs_cons (wpAny_AugAssign_Name (wpAny_loadName_local hk hl n hv (he.use F fun v2 s' r2 k F' =>
    no_mono (ho s' v v2 (rv.keeps (kp_heap k)) r2) fun v3 s3 x3 => SX.store ((FI w s0 env m cm Z hz).mono _ _ F' x3.2) hz x3.1 hl hk fun s'' F'' _ => hn s'' F'')))
theorem SX.augC {x : Str} {c' : Addr} {p' pos : Pos} {op : Operator} {e : Expr} {a b c : PV} (ha : cm.lookup x = some a) (he : EV w A env (FI w s0 env m cm Z hz) e b) (ho : IOpV w A op a b c) (hl : env.kindOf x = some .cell) (hc : env.cells.lookup x = some c') (hk : env.scope.kind = .function)
    (hn : SX w A env (FI w s0 env m ((x, c) :: cm) Z hz) ss R) : SX w A env (FI w s0 env m cm Z hz) (.AugAssign (.Name x p') op e pos :: ss) R := fun s F => by
  obtain ⟨cv, X, r⟩ := F.cel
  obtain ⟨v, hv, rv⟩ := r x a ha
  exact wpAny_execs_cons (wpAny_AugAssign_Name (wpAny_loadName_cell hk hl hc (hv ▸ X.cell x c' hc) (he.use F fun v2 s' r2 k F' =>
    no_mono (ho s' v v2 (rv.keeps (kp_heap k)) r2) fun v3 s3 x3 => SX.storeC ((FI w s0 env m cm Z hz).mono _ _ F' x3.2) hz x3.1 hl hc hk fun s'' F'' => hn s'' F'')))
theorem SX.ret {e : Expr} {pos : Pos} {pv : PV} {I : Inv} (he : EV w A env I e pv) (hR : ∀ s v, I.P s → Rep s.heap pv v → R (.ret v) s) : SX w A env I (.Return (some e) pos :: ss) R := fun s F =>
  wpAny_execs_cons (wpAny_Return_some (he.use F fun v s' r _ F' => hR s' v F' r))
/-- what comes behind a block -/
noncomputable def Then (w : World) (A : Around) (env : Env) (ss : List Stmt) (R : Flow → Shared → Prop) : Flow → Shared → Prop := fun f s' => match f with | .next => wpAny (model PF w) A (execs ss env) R No s' | f => R f s'
theorem SX.if_ {t : Expr} {body orelse : List Stmt} {pos : Pos} {b : Bool} {I : Inv} (ht : EB w A env I t b) (h1 : b = true → SX w A env I body (Then w A env ss R)) (h2 : b = false → SX w A env I orelse (Then w A env ss R)) :
    SX w A env I (.If t body orelse pos :: ss) R := fun s F =>
  wpAny_execs_cons (wpAny_If (ht.use F fun s' k F' => by
    have fin : ∀ {l : List Stmt}, SX w A env I l (Then w A env ss R) → wpAny (model PF w) A (execs l env) (fun f s' => match f with | .next => wpAny (model PF w) A (execs ss env) R No s' | f => R f s') No s' := fun h =>
      wpAny_mono (h s' F') (fun f s'' x => by cases f <;> exact x) fun _ _ x => x
    cases b
    · exact fin (h2 rfl)
    · exact fin (h1 rfl)))
theorem SX.then_nil {I : Inv} (h : SX w A env I ss R) : SX w A env I [] (Then w A env ss R) := fun s F => wpAny_execs_nil (h s F)
theorem SX.mono {I : Inv} {R' : Flow → Shared → Prop} (h : SX w A env I ss R) (hR : ∀ f s, R f s → R' f s) : SX w A env I ss R' := fun s F => wpAny_mono (h s F) hR fun _ _ x => x
end

/-- the contract of a pure function -/
noncomputable def PC (w : World) (d : Nat) (f : Addr) (args : List PV) (res : PV) : Prop :=
  ∀ A s vs, Lv d A → XAt w s.heap → RepL s.heap args vs → Pu w A (call (.ref f) vs) s res

theorem bindL_of {k : Str → Option NameKind} : ∀ (xs : List Str) (vs : List Value) (pvs : List PV) (h : Heap) (m : Str → Option Value) (ml : List (Str × PV)), RepL h pvs vs → (∀ x pv, ml.lookup x = some pv → ∃ v, m x = some v ∧ Rep h pv v) →
    (∀ x ∈ xs, k x = some .local) → ∀ x pv, (List.lookup x ((xs.zip pvs).reverse ++ ml)) = some pv → ∃ v, bindL k (xs.zip vs) m x = some v ∧ Rep h pv v
  | [], vs, pvs, h, m, ml, _, hm, _, x, pv, e => by simpa [bindL] using hm x pv (by simpa using e)
  | y :: ys, vs, [], h, m, ml, r, hm, _, x, pv, e => by
    simp only [RepL] at r; subst r
    simpa [bindL] using hm x pv (by simpa using e)
  | y :: ys, vs, q :: qs, h, m, ml, r, hm, hk, x, pv, e => by
    simp only [RepL] at r
    obtain ⟨v, vs', rfl, r1, r2⟩ := r
    simp only [List.zip_cons_cons, bindL, if_pos (hk y (.head _))]
    refine bindL_of ys vs' qs h _ ((y, q) :: ml) r2 ?_ (fun z hz => hk z (.tail _ hz)) x pv ?_
    · intro z p ez
      simp only [List.lookup_cons] at ez
      cases hb : z == y with
      | true => rw [hb] at ez; cases ez; exact ⟨v, by rw [if_pos (eq_of_beq hb)], r1⟩
      | false => rw [hb] at ez; obtain ⟨u, a, b⟩ := hm z p ez; exact ⟨u, by rw [if_neg (beq_eq_false_iff_ne.mp hb)]; exact a, b⟩
    · simpa only [List.zip_cons_cons, List.reverse_cons, List.append_assoc, List.singleton_append] using e
theorem bindC_of {k : Str → Option NameKind} : ∀ (xs : List Str) (vs : List Value) (pvs : List PV) (h : Heap) (m : Str → Option Value) (ml : List (Str × PV)), RepL h pvs vs → (∀ x pv, ml.lookup x = some pv → ∃ v, m x = some v ∧ Rep h pv v) →
    (∀ x ∈ xs, k x ≠ some .local) → ∀ x pv, (List.lookup x ((xs.zip pvs).reverse ++ ml)) = some pv → ∃ v, bindC k (xs.zip vs) m x = some v ∧ Rep h pv v
  | [], vs, pvs, h, m, ml, _, hm, _, x, pv, e => by simpa [bindC] using hm x pv (by simpa using e)
  | y :: ys, vs, [], h, m, ml, r, hm, _, x, pv, e => by
    simp only [RepL] at r; subst r
    simpa [bindC] using hm x pv (by simpa using e)
  | y :: ys, vs, q :: qs, h, m, ml, r, hm, hk, x, pv, e => by
    simp only [RepL] at r
    obtain ⟨v, vs', rfl, r1, r2⟩ := r
    simp only [List.zip_cons_cons, bindC, if_neg (hk y (.head _))]
    refine bindC_of ys vs' qs h _ ((y, q) :: ml) r2 ?_ (fun z hz => hk z (.tail _ hz)) x pv ?_
    · intro z p ez
      simp only [List.lookup_cons] at ez
      cases hb : z == y with
      | true => rw [hb] at ez; cases ez; exact ⟨v, by rw [if_pos (eq_of_beq hb)], r1⟩
      | false => rw [hb] at ez; obtain ⟨u, a, b⟩ := hm z p ez; exact ⟨u, by rw [if_neg (beq_eq_false_iff_ne.mp hb)]; exact a, b⟩
    · simpa only [List.zip_cons_cons, List.reverse_cons, List.append_assoc, List.singleton_append] using e
end Mine
end
section
open PySem PySem.W PyProof.Rows
namespace Mine
noncomputable def esMain (P : Params) : Array DictEntry := match (Mine.suf.o_231 P).data with | .dict es _ => es | _ => #[]
noncomputable def esBui (P : Params) : Array DictEntry := match (boot_o_0 P).data with | .dict es _ => es | _ => #[]
noncomputable def strKeys (es : Array DictEntry) : Bool := es.toList.all fun e => match e.key with | .str _ _ => true | _ => false
theorem strKeys_of {es : Array DictEntry} (h : strKeys es = true) : StrKeys es := fun e he => by
  have := List.all_eq_true.mp h e (Array.mem_toList_iff.mpr he)
  split at this
  · rename_i n t q; exact ⟨n, t, q⟩
  · cases this
noncomputable def dictOf (o : Obj) : Option (Array DictEntry) := match o.data with | .dict es _ => some es | _ => Option.none
theorem ns_of {w : World} {h : Heap} (X : XAt w h) {a : Addr} (o : Obj) (es : Array DictEntry) (ho : (KXF w.params).lookup a = some o) (hd : dictOf o = some es) (hk : strKeys es = true) : h.Ns a (nsFind es) := by
  unfold dictOf at hd
  split at hd
  · rename_i es' ep q
    cases hd
    exact ⟨o, es, ep, X.1 a o ho, q, strKeys_of hk, fun _ => rfl⟩
  · cases hd
set_option maxHeartbeats 0 in
theorem main_ns {w : World} {h : Heap} (X : XAt w h) : h.Ns mainGlobals (nsFind (esMain w.params)) :=
  ns_of X (Mine.suf.o_231 w.params) _ (by kernel_rfl) (by kernel_rfl) (by kernel_rfl)
set_option maxHeartbeats 0 in
theorem bui_ns {w : World} {h : Heap} (X : XAt w h) : h.Ns builtinsNs (nsFind (esBui w.params)) :=
  ns_of X (boot_o_0 w.params) _ (by kernel_rfl) (by kernel_rfl) (by kernel_rfl)
theorem no_limit {w : World} {h : Heap} (X : XAt w h) : h.NoLimit :=
  ⟨nsFind #[], ns_of X (a := cStatics) (boot_o_2 w.params) #[] (by kernel_rfl) (by kernel_rfl) (by kernel_rfl), rfl⟩

structure Inv.Has (I : Inv) (w : World) : Prop where
  x : ∀ s, I.P s → XAt w s.heap
theorem FI.has {w : World} {s0 : Shared} {env : Env} {m cm : List (Str × PV)} {Z : Heap → Prop} {hz : Stable env Z} : (FI w s0 env m cm Z hz).Has w := ⟨fun s F => FIP.xat F⟩

section
variable {w : World} {A : Around} {env : Env} {I : Inv}

theorem EV.glob {x : Str} {pos : Pos} {v : Value} (hI : I.Has w) (hx : nsFind (esMain w.params) x = some v) (hl : env.kindOf x = some .globalImplicit) (hg : env.globals = mainGlobals) (hk : env.scope.kind = .function) (hd : (x == ("__debug__" : Str)) = false) :
    EV w A env I (.Name x pos) (.val v) := fun s F =>
  Calls.Name_function_global hk hl (Calls.loadGlobal_global (hg ▸ main_ns (hI.x s F)) hx ⟨by simp only [Rep], kp_refl _⟩) hd
theorem EV.bui {x : Str} {pos : Pos} {v : Value} (hI : I.Has w) (hm : nsFind (esMain w.params) x = Option.none) (hx : nsFind (esBui w.params) x = some v) (hl : env.kindOf x = some .globalImplicit) (hg : env.globals = mainGlobals) (hb : env.builtins = builtinsNs) (hk : env.scope.kind = .function) (hd : (x == ("__debug__" : Str)) = false) :
    EV w A env I (.Name x pos) (.val v) := fun s F =>
  Calls.Name_function_global hk hl (Calls.loadGlobal_builtin (hg ▸ main_ns (hI.x s F)) hm (hb ▸ bui_ns (hI.x s F)) hx ⟨by simp only [Rep], kp_refl _⟩) hd

noncomputable def EVs (w : World) (A : Around) (env : Env) (I : Inv) (pos : Pos) (es : List Expr) (pvs : List PV) : Prop :=
  ∀ s, I.P s → wpAny (model PF w) A (spliced (backTo pos (starEach es env))) (fun vs s' => RepL s'.heap pvs vs ∧ Keeps s s') No s
theorem EVs.nil {pos : Pos} : EVs w A env I pos [] [] := fun s _ => args_nil ⟨by simp only [RepL], kp_refl _⟩
theorem EVs.cons {pos : Pos} {e : Expr} {rest : List Expr} {pv : PV} {pvs : List PV} (h : EV w A env I e pv) (hr : EVs w A env I pos rest pvs)
    (he : starEach (e :: rest) env = (false, eval e env) :: starEach rest env) : EVs w A env I pos (e :: rest) (pv :: pvs) := fun s F =>
  args_cons (h.use F fun v s' r k F' => no_mono (hr s' F') fun vs s'' x => ⟨by simp only [RepL]; exact ⟨v, vs, rfl, r.keeps (kp_heap x.2), x.1⟩, kp_trans k x.2⟩) he

theorem EV.calldef {x : Str} {p pos : Pos} {e : Expr} {rest : List Expr} {pvs : List PV} {a : Addr} {o : Obj} {fd : FuncData} {res : PV} {d : Nat} (hn : EV w A env I (.Name x p) (.val (.ref a))) (ha : EVs w A env I pos (e :: rest) pvs)
    (hI : I.Has w) (ho : (KXF w.params).lookup a = some o) (hd : o.data = .func fd) (hc : PC w d a pvs res) (hA : Lv d A)
    (h1 : eval (.Call (.Name x p) (e :: rest) [] pos) env = (do callWith pos (← eval (.Name x p) env) [] (backTo pos (starEach (e :: rest) env)) (backToKw pos (keywordEach [] env))) := by rfl)
    (h2 : starEach (e :: rest) env = (false, eval e env) :: starEach rest env := by rfl) : EV w A env I (.Call (.Name x p) (e :: rest) [] pos) res := fun s F =>
  Call_ (hn.use F fun v s' r k F' => by
    simp only [Rep] at r; subst r
    exact callWith_def hd (no_mono (ha s' F') fun vs s'' x => ⟨(hI.x s'' (I.mono _ _ F' x.2)).1 _ _ ho, (hc A s'' vs hA (hI.x s'' (I.mono _ _ F' x.2)) x.1).after (kp_trans k x.2)⟩) h2) h1

theorem PC.body {a : Addr} {o : Obj} {fd : FuncData} {body : List Stmt} {d : Nat} {args : List PV} {res : PV} (names : List Str) (ml : List (Str × PV)) (hml : (names.zip args).reverse ++ [] = ml) (ho : (KXF w.params).lookup a = some o) (hdata : o.data = .func fd) (hcd : codeIn (KXF w.params) fd.code fd.qualname = true)
    (hbody : fd.body = .stmts body) (hclo : fd.closure = []) (hlen : names.length = args.length) (hbind : ∀ vs, vs.length = args.length → bindArgs fd ⟨vs, []⟩ = pure (names.zip vs)) (hkind : ∀ x ∈ names, fd.scope.names.lookup x = some .local)
    (hco : fd.scope.isCoroutine = false) (hgen : fd.scope.isGenerator = false) (hk : fd.scope.kind = .function) (hZ : ∀ L, Stable (callEnvC fd L a) fun _ => True)
    (h : ∀ A s L, Lv d A → SX w A (callEnvC fd L a) (FI w s (callEnvC fd L a) ml [] (fun _ => True) (hZ L)) body (fun f s' => ∃ v, f = .ret v ∧ Rep s'.heap res v ∧ Keeps s s')) : PC w (d + 1) a args res := by
  subst hml
  intro A s vs hA X hr
  have hlv : ∀ {l : List PV} {vs : List Value}, RepL s.heap l vs → vs.length = l.length := by
    intro l
    induction l with
    | nil => intro vs r; simp only [RepL] at r; subst r; rfl
    | cons p l ih => intro vs r; simp only [RepL] at r; obtain ⟨v, vs', rfl, _, r⟩ := r; simp [ih r]
  refine wpAny_call (codeAny_call_cells hA.room (X.1 _ _ ho) hdata (no_limit X) (codeRec_of X.1 hcd) hbody (hbind vs (hlv hr)) hclo (fun x hx => .inl (hkind x.1 (List.of_mem_zip hx).1)) (fun s₁ C => ?_) hco hgen hk)
  obtain ⟨h', tk, rfl, hkp⟩ := C.done
  refine wpAny_mono (h _ s _ (hA.deeper _) _ ⟨X, ⟨h', tk, rfl, hkp⟩, C.toInCall.fresh, ⟨_, C.toInCall.ns, ?_⟩, ⟨_, ⟨C.cell, C.apart, C.above⟩, fun x pv e => by cases e⟩, trivial⟩) (fun f s' x => ?_) fun _ _ x => x.elim
  · intro x pv e
    obtain ⟨v, h1, h2⟩ := bindL_of names vs args s.heap (fun _ => .none) [] hr (fun x pv e => by cases e) hkind x pv e
    exact ⟨v, h1, h2.keeps hkp⟩
  · obtain ⟨v, rfl, r, k⟩ := x
    exact ⟨r, k⟩
end
end Mine
end
section
open PySem PySem.W PyProof.Rows
namespace Mine
theorem at_here {m : List (Str × PV)} {x : Str} {pv : PV} : ((x, pv) :: m).lookup x = some pv := by simp
theorem at_there {m : List (Str × PV)} {x y : Str} {pv q : PV} (h : (x == y) = false) (e : m.lookup x = some pv) : ((y, q) :: m).lookup x = some pv := by rw [List.lookup_cons, h]; exact e
noncomputable def fdOf (o : Obj) : Option FuncData := match o.data with | .func fd => some fd | _ => none

local macro_rules | `(tactic| walk_at "lk") => `(tactic| first | with_reducible exact at_here | (with_reducible refine' at_there (by kernel_rfl) ?_; walk_at "lk"))
local macro_rules | `(tactic| walk_at "op") => `(tactic| first | exact OpV.add_int | exact OpV.sub_int | exact OpV.and_int | exact OpV.xor_int | exact OpV.mod_int (by decide) | exact OpV.div_int (by decide) (by decide))
local macro_rules | `(tactic| walk_at "ev") => `(tactic| first
  | with_reducible exact EV.int | with_reducible exact EV.str | with_reducible exact EV.bool | with_reducible exact EV.none
  | (with_reducible refine' EV.loc ?h1 (by kernel_rfl) (by kernel_rfl) (by kernel_rfl); (case h1 => walk_at "lk"))
  | (with_reducible refine' EV.binop ?h1 ?h2 ?h3; (case h1 => walk_at "ev"); (case h2 => walk_at "ev"); (case h3 => walk_at "op")))
set_option maxHeartbeats 1000000 in
theorem pc_S_IFMT (w : World) (d : Nat) (m : Int) : PC w (d + 1) 28 [.int m] (.int (Builtin.bitAnd m 61440)) := by
  have hd : (Mine.suf.o_20 w.params).data = .func _ := rfl
  refine PC.body [Str.ofString "mode"] [(Str.ofString "mode", .int m)] rfl (by kernel_rfl) hd (by kernel_rfl) rfl rfl rfl (fun vs h => ?_) ?_ rfl rfl rfl (fun L => Stable.tt) fun A s L hA => ?_
  · obtain ⟨v, rfl⟩ := len1 h; rfl
  · decide +kernel
  · refine SX.ret (pv := .int (Builtin.bitAnd m 61440)) ?_ fun s' v F r => ⟨v, rfl, r, FIP.kp F⟩
    walk_at "ev"
end Mine
end
section
open PySem PySem.W PyProof.Rows
namespace Mine
theorem repL_ints : ∀ {h : Heap} (ns : List Int) {vs : List Value}, RepL h (ns.map .int) vs → IntsAre vs ns
  | _, [], _, r => by simp only [List.map_nil, RepL] at r; subst r; exact .nil
  | _, n :: ns, _, r => by
    simp only [List.map_cons, RepL, Rep] at r
    obtain ⟨v, vs', rfl, ⟨t, rfl⟩, r⟩ := r
    exact .cons n t (repL_ints ns r)
theorem repL_strs : ∀ {h : Heap} (ns : List Str) {vs : List Value}, RepL h (ns.map .str) vs → StrsAre vs ns
  | _, [], _, r => by simp only [List.map_nil, RepL] at r; subst r; exact .nil
  | _, n :: ns, _, r => by
    simp only [List.map_cons, RepL, Rep] at r
    obtain ⟨v, vs', rfl, ⟨t, rfl⟩, r⟩ := r
    exact .cons n t (repL_strs ns r)
theorem ints_repL : ∀ {h : Heap} {ns : List Int} {vs : List Value}, IntsAre vs ns → RepL h (ns.map .int) vs
  | _, _, _, .nil => by simp only [List.map_nil, RepL]
  | _, _, _, .cons n t r => by simp only [List.map_cons, RepL, Rep]; exact ⟨_, _, rfl, ⟨t, rfl⟩, ints_repL r⟩
theorem strs_repL : ∀ {h : Heap} {ns : List Str} {vs : List Value}, StrsAre vs ns → RepL h (ns.map .str) vs
  | _, _, _, .nil => by simp only [List.map_nil, RepL]
  | _, _, _, .cons n t r => by simp only [List.map_cons, RepL, Rep]; exact ⟨_, _, rfl, ⟨t, rfl⟩, strs_repL r⟩
theorem repL_len : ∀ {h : Heap} {ps : List PV} {vs : List Value}, RepL h ps vs → vs.length = ps.length
  | _, [], _, r => by simp only [RepL] at r; subst r; rfl
  | _, p :: ps, _, r => by simp only [RepL] at r; obtain ⟨v, vs', rfl, _, r⟩ := r; simp [repL_len r]
theorem repL_get : ∀ {h : Heap} {ps : List PV} {vs : List Value}, RepL h ps vs → ∀ (i : Nat) (p : PV), ps[i]? = some p → ∃ v, vs[i]? = some v ∧ Rep h p v
  | _, [], _, r, i, p, e => by simp at e
  | _, q :: ps, _, r, 0, p, e => by simp only [RepL] at r; obtain ⟨v, vs', rfl, r1, r⟩ := r; simp at e; subst e; exact ⟨v, rfl, r1⟩
  | _, q :: ps, _, r, i + 1, p, e => by simp only [RepL] at r; obtain ⟨v, vs', rfl, r1, r⟩ := r; simp at e; simpa using repL_get r i p e
theorem repL_get' : ∀ {h : Heap} {ps : List PV} {vs : List Value}, RepL h ps vs → ∀ (i : Nat) (v : Value), vs[i]? = some v → ∃ p, ps[i]? = some p ∧ Rep h p v
  | _, [], _, r, i, p, e => by simp only [RepL] at r; subst r; simp at e
  | _, q :: ps, _, r, 0, p, e => by simp only [RepL] at r; obtain ⟨v, vs', rfl, r1, r⟩ := r; simp at e; subst e; exact ⟨q, rfl, r1⟩
  | _, q :: ps, _, r, i + 1, p, e => by simp only [RepL] at r; obtain ⟨v, vs', rfl, r1, r⟩ := r; simp at e; simpa using repL_get' r i p e
theorem repL_append : ∀ {h : Heap} {ps qs : List PV} {vs us : List Value}, RepL h ps vs → RepL h qs us → RepL h (ps ++ qs) (vs ++ us)
  | _, [], _, _, _, r, r' => by simp only [RepL] at r; subst r; exact r'
  | _, p :: ps, _, _, _, r, r' => by
    simp only [RepL, List.cons_append] at r ⊢; obtain ⟨v, vs', rfl, r1, r⟩ := r
    exact ⟨v, vs' ++ _, rfl, r1, repL_append r r'⟩
theorem rep_plist {h : Heap} {l : List PV} {v : Value} (r : Rep h (.plist l) v) : Rep h (.list l) v := by
  simp only [Rep] at r ⊢; obtain ⟨a, vs, e, p, r⟩ := r; exact ⟨a, vs, e, p.isList, r⟩

theorem seqIndex_ok {i n : Nat} (h : i < n) : seqIndex? (i : Int) n = some i := by
  unfold seqIndex?
  simp only [show ¬ ((i : Int) < 0) by omega, if_false, show (0 ≤ (i : Int)) by omega, show ((i : Int) < n) by omega, decide_true, Bool.and_self, if_true, Int.toNat_natCast]
section
variable {w : World} {A : Around} {env : Env} {I : Inv}
theorem EV.weak {e : Expr} {l : List PV} (h : EV w A env I e (.plist l)) : EV w A env I e (.list l) := fun s F => no_mono (h s F) fun v s' x => ⟨rep_plist x.1, x.2⟩
theorem EV.as {e : Expr} {p q : PV} (h : EV w A env I e p) (e' : p = q) : EV w A env I e q := e' ▸ h

/-- a call of a built-in -/
noncomputable def CallV (w : World) (A : Around) (id : String) (args : List PV) (res : PV) : Prop := ∀ s vs, RepL s.heap args vs → Pu w A (call (.builtin id) vs) s res
theorem EV.callbui {x : Str} {p pos : Pos} {e : Expr} {rest : List Expr} {pvs : List PV} {id : String} {res : PV} (hn : EV w A env I (.Name x p) (.val (.builtin id))) (ha : EVs w A env I pos (e :: rest) pvs)
    (hc : CallV w A id pvs res)
    (h1 : eval (.Call (.Name x p) (e :: rest) [] pos) env = (do callWith pos (← eval (.Name x p) env) [] (backTo pos (starEach (e :: rest) env)) (backToKw pos (keywordEach [] env))) := by rfl)
    (h2 : starEach (e :: rest) env = (false, eval e env) :: starEach rest env := by rfl) (h3 : (backTo pos (starEach rest env)).any (·.1) = false := by rfl) : EV w A env I (.Call (.Name x p) (e :: rest) [] pos) res := fun s F =>
  Call_ (hn.use F fun v s' r k F' => by
    simp only [Rep] at r; subst r
    exact PyProof.Rows.callWith_builtin1 (no_mono (ha s' F') fun vs s'' x => (hc s'' vs x.1).after (kp_trans k x.2)) h2 h3) h1

theorem CallV.ord {c : Nat} : CallV w A "ord" [.str ⟨#[c]⟩] (.int c) := fun s vs r => by
  simp only [RepL, Rep] at r
  obtain ⟨v, vs', rfl, ⟨t, rfl⟩, rfl⟩ := r
  exact P.ord_of_char ⟨rep_int, kp_toks _ _⟩
theorem CallV.chr {i : Int} (hi : 0 ≤ i) (hi2 : i ≤ 0x10FFFF) : CallV w A "chr" [.int i] (.str ⟨#[i.toNat]⟩) := fun s vs r => by
  simp only [RepL, Rep] at r
  obtain ⟨v, vs', rfl, ⟨t, rfl⟩, rfl⟩ := r
  exact P.chr_of_int (by simp; omega) ⟨rep_str, kp_toks _ _⟩
theorem CallV.len_str {x : Str} (hx : x.length < 2 ^ 62) : CallV w A "len" [.str x] (.int x.length) := fun s vs r => by
  simp only [RepL, Rep] at r
  obtain ⟨v, vs', rfl, ⟨t, rfl⟩, rfl⟩ := r
  exact PySem.P.len_str (by omega) ⟨rep_int, kp_toks _ _⟩
theorem CallV.len_list {l : List PV} (hx : l.length < 2 ^ 62) : CallV w A "len" [.list l] (.int l.length) := fun s vs r => by
  simp only [RepL, Rep] at r
  obtain ⟨v, vs', rfl, ⟨a, us, rfl, hl, hr⟩, rfl⟩ := r
  have hsz : us.size = l.length := by have := repL_len hr; simpa using this
  refine Calls.call_len_list hl (by omega) ⟨?_, kp_toks _ _⟩
  rw [hsz]; exact rep_int
theorem CallV.max_two {a b : Int} (hA : A.handled = none) : CallV w A "max" [.int a, .int b] (.int (max a b)) := fun s vs r => by
  simp only [RepL, Rep] at r
  obtain ⟨v, vs', rfl, ⟨t, rfl⟩, v2, vs2, rfl, ⟨u, rfl⟩, rfl⟩ := r
  refine max_two_ints hA fun h' tk k => ⟨?_, ⟨h', tk, rfl, k⟩⟩
  by_cases hba : b > a
  · rw [if_pos hba, show max a b = b by omega]; exact rep_int
  · rw [if_neg hba, show max a b = a by omega]; exact rep_int
theorem CallV.min_two {a b : Int} (hA : A.handled = none) : CallV w A "min" [.int a, .int b] (.int (min a b)) := fun s vs r => by
  simp only [RepL, Rep] at r
  obtain ⟨v, vs', rfl, ⟨t, rfl⟩, v2, vs2, rfl, ⟨u, rfl⟩, rfl⟩ := r
  refine min_two_ints hA fun h' tk k => ⟨?_, ⟨h', tk, rfl, k⟩⟩
  by_cases hba : b < a
  · rw [if_pos hba, show min a b = b by omega]; exact rep_int
  · rw [if_neg hba, show min a b = a by omega]; exact rep_int

/-- an item -/
noncomputable def SubV (w : World) (A : Around) (value slice : Expr) (a i r : PV) : Prop := ∀ s va vi, Rep s.heap a va → Rep s.heap i vi → Pu w A (subscriptTail value slice va vi) s r
theorem EV.sub {value slice : Expr} {pos : Pos} {a i r : PV} (ha : EV w A env I value a) (hi : EV w A env I slice i) (h : SubV w A value slice a i r) : EV w A env I (.Subscript value slice pos) r := fun s F =>
  Subscript_ (ha.use F fun va s₁ ra k₁ F₁ => hi.use F₁ fun vi s₂ ri k₂ F₂ => (h s₂ va vi (ra.keeps (kp_heap k₂)) ri).after (kp_trans k₁ k₂))
theorem SubV.list {value slice : Expr} {l : List PV} {i : Nat} {r : PV} (hr : l[i]? = some r) (hi : i < 2 ^ 62)
    (hs : ∀ a u, subscripted slice false (.ref a) (.int i u) = operate [.ref a, .int i u] (getItem (.ref a) (.int i u))) (hg : ∀ a r, letTemporaryGo value (.ref a) r = pure ()) :
    SubV w A value slice (.list l) (.int i) r := fun s va vi ra ri => by
  simp only [Rep] at ra ri
  obtain ⟨a, us, rfl, hl, rr⟩ := ra
  obtain ⟨t, rfl⟩ := ri
  obtain ⟨v, hv, rv⟩ := repL_get rr i r hr
  exact item_list hl (by omega) (by omega) (by simpa using hv) ⟨rv, kp_refl _⟩ (hs _ _) (hg _)
theorem SubV.tup {value slice : Expr} {l : List PV} {i : Nat} {r : PV} (hr : l[i]? = some r) (hi : i < 2 ^ 62)
    (hs : ∀ a u, subscripted slice false (.ref a) (.int i u) = operate [.ref a, .int i u] (getItem (.ref a) (.int i u))) (hg : ∀ a r, letTemporaryGo value (.ref a) r = pure ()) :
    SubV w A value slice (.tup l) (.int i) r := fun s va vi ra ri => by
  simp only [Rep] at ra ri
  obtain ⟨a, us, rfl, ⟨n, hl⟩, rr⟩ := ra
  obtain ⟨t, rfl⟩ := ri
  obtain ⟨v, hv, rv⟩ := repL_get rr i r hr
  have hlt : i < us.size := by
    have := List.getElem?_eq_some_iff.mp hv
    simpa using this.1
  exact item_tuple (j := i) ⟨_, hl, rfl, n, rfl⟩ (by omega) (by omega) (seqIndex_ok hlt) (by simpa using hv) ⟨rv, kp_refl _⟩ (hs _ _) (hg _)
theorem SubV.str {value slice : Expr} {x : Str} {i : Nat} {c : Nat} (hr : x.cps[i]? = some c) (hi : i < 2 ^ 62)
    (hs : ∀ t u, subscripted slice false (.str x t) (.int i u) = operate [.str x t, .int i u] (getItem (.str x t) (.int i u))) (hg : ∀ t r, letTemporaryGo value (.str x t) r = pure ()) :
    SubV w A value slice (.str x) (.int i) (.str ⟨#[c]⟩) := fun s va vi ra ri => by
  simp only [Rep] at ra ri
  obtain ⟨t, rfl⟩ := ra
  obtain ⟨u, rfl⟩ := ri
  have hlt : i < x.length := (Array.getElem?_eq_some_iff.mp hr).1
  refine subscriptTail_builtin (typeIs_str s x t) F.slot_str_getitem.lookup (PySem.P.getItem_str (c := c) ?_ ?_ ⟨rep_str, kp_toks _ _⟩) (hs _ _) (hg _)
  · simp; omega
  · rw [seqIndex_ok hlt]; exact hr
end
end Mine
end
section
open PySem PySem.W PyProof.Rows
namespace Mine
noncomputable def Flat : PV → Bool
  | .list _ => false
  | .plist _ => false
  | .tup _ => false
  | _ => true
theorem Rep.flat {p : PV} (hf : Flat p = true) {h h' : Heap} {v : Value} (r : Rep h p v) : Rep h' p v := by
  cases p <;> first | (simp only [Rep] at r ⊢; exact r) | (simp [Flat] at hf)

structure ItOk (w : World) (A : Around) (items : List PV) (ds : List Addr) (g h0 : Heap) (it : Addr) (fp wr : List Addr) (P : Nat → Value → Prop) (St : Nat → Heap → Prop) : Prop where
  walks : Walks PF w A it fp wr items.length P St
  vals : ∀ i v, P i v → ∃ p, items[i]? = some p ∧ Rep h0 p v
  st : St 0 h0
  free : ∀ b ∈ wr, g.get? b = none
  ex : ∀ i h, St i h → ∀ b ∈ fp, ∃ o, h.get? b = some o ∧ (∀ es ep, o.data ≠ .dict es ep) ∧ (∀ v, o.data ≠ .cell v)
  nseq : ∀ i h, St i h → ∀ b ∈ wr, ∀ o, h.get? b = some o → ∀ vs n, o.data ≠ .seq vs n
  off : ∀ b ∈ fp, b ∉ ds

noncomputable def ItV (w : World) (A : Around) (env : Env) (I : Inv) (ds : List Addr) (iter : Expr) (items : List PV) : Prop :=
  ∀ s, I.P s → ∀ (Q : Value → Shared → Prop) (E : Value → Shared → Prop), (∀ s' it fp wr P St, Keeps s s' → ItOk w A items ds s.heap s'.heap it fp wr P St → Q (.ref it) s') →
    wpAny (model PF w) A (eval iter env) (fun v s₁ => wpAny (model PF w) A (pyIter v) Q E s₁) E s

section
variable {w : World} {A : Around} {env : Env} {s0 : Shared} {m cm : List (Str × PV)} {R : Flow → Shared → Prop} {ss : List Stmt}

theorem FIP.next {Z Z' : Heap → Prop} {s : Shared} {h' : Heap} {tk : Nat} {wr : List Addr} {g : Heap} (F : FIP w s0 env m cm Z s) (hnd : (env.cells.map (·.1)).Nodup) (hg : KpH s0.heap g) (hw : ∀ b ∈ wr, g.get? b = none)
    (ho : ∀ b ∈ wr, ∀ o, s.heap.get? b = some o → (∀ es ep, o.data ≠ .dict es ep) ∧ (∀ v, o.data ≠ .cell v) ∧ (∀ vs n, o.data ≠ .seq vs n)) (hk : ∀ b o, b ∉ wr → s.heap.get? b = some o → h'.get? b = some o) (hz : Z' h') :
    FIP w s0 env m cm Z' { s with heap := h', toks := tk } := by
  have kb : ∀ b o, (∀ vs n, o.data = .seq vs n → s.heap.get? b = some o → h'.get? b = some o) := fun b o vs n d e => hk b o (fun hm => (ho b hm o e).2.2 _ _ d) e
  refine ⟨F.x, ?_, F.up, ?_, ?_, hz⟩
  · obtain ⟨h, t, rfl, k⟩ := F.kp
    exact ⟨h', tk, rfl, fun b o e => hk b o (fun hm => by have := hg b o e; rw [hw b hm] at this; cases this) (k b o e)⟩
  · obtain ⟨mv, n, r⟩ := F.loc
    obtain ⟨o, es, ep, e, d, q⟩ := id n
    exact ⟨mv, ⟨o, es, ep, hk _ _ (fun hm => (ho _ hm o e).1 _ _ d) e, d, q⟩, fun x pv e => let ⟨v, a, b⟩ := r x pv e; ⟨v, a, b.keepsBut kb⟩⟩
  · obtain ⟨cv, X, r⟩ := F.cel
    refine ⟨cv, ⟨fun n c e => ?_, X.apart, X.above⟩, fun x pv e => let ⟨v, a, b⟩ := r x pv e; ⟨v, a, b.keepsBut kb⟩⟩
    obtain ⟨o, e', d⟩ := X.cell n c e
    exact ⟨o, hk _ _ (fun hm => (ho _ hm o e').2.1 _ d) e', d⟩

theorem SX.for_ {x : Str} {px pos : Pos} {iter : Expr} {body orelse : List Stmt} {items : List PV} (ds : List Addr) (M MB : Nat → List (Str × PV)) (Y YB : Nat → Heap → Prop) (Zx : Heap → Prop) (hZ : Off env ds Zx)
    (hY : ∀ i h h', Y i h → (∀ d ∈ ds, h'.get? d = h.get? d) → Y i h') (hYx : ∀ i h, Y i h → ∀ d ∈ ds, ∃ o, h.get? d = some o) (hdo : ∀ d ∈ ds, ¬ Own env d) (hnd : (env.cells.map (·.1)).Nodup)
    (hz : ∀ i, Stable env fun h => Zx h ∧ Y i h) (hm : M 0 = m)
    (hit : ItV w A env (FI w s0 env m cm (fun h => Zx h ∧ Y 0 h) (hz 0)) ds iter items) (hfl : ∀ p ∈ items, Flat p = true) (hl : env.kindOf x = some .local) (hk : env.scope.kind = .function)
    (turn : ∀ i p Zb (hzb : Stable env fun h => Zb h ∧ Y i h), items[i]? = some p → Off env ds Zb → (∀ h, Zb h → Zx h) → SX w A env (FI w s0 env ((x, p) :: M i) cm (fun h => Zb h ∧ Y i h) hzb) body
      (fun f s' => match f with | .next | .cont => FIP w s0 env (M (i + 1)) cm (fun h => Zb h ∧ Y (i + 1) h) s' | .brk => FIP w s0 env (MB i) cm (fun h => Zb h ∧ YB i h) s' | .ret v => R (.ret v) s'))
    (hels : ∀ s, FIP w s0 env (M items.length) cm (fun h => Zx h ∧ Y items.length h) s → wpAny (model PF w) A (execs orelse env) (Then w A env ss R) No s)
    (hbrk : ∀ i s, i < items.length → FIP w s0 env (MB i) cm (fun h => Zx h ∧ YB i h) s → wpAny (model PF w) A (execs ss env) R No s)
    (hs : ∀ x, foldedSetIterable iter env x = pure x := by intro _; rfl) :
    SX w A env (FI w s0 env m cm (fun h => Zx h ∧ Y 0 h) (hz 0)) (.For (.Name x px) iter body orelse pos :: ss) R := fun s F => by
  subst hm
  refine wpAny_execs_cons (wpAny_For (hit s F _ _ fun s' it fp wr P St k ok => ?_) hs)
  have F' : FIP w s0 env (M 0) cm (fun h => Zx h ∧ Y 0 h) s' := (FI w s0 env (M 0) cm (fun h => Zx h ∧ Y 0 h) (hz 0)).mono _ _ F k
  have hfo : ∀ b ∈ fp, ¬ Own env b := fun b hb => by
    obtain ⟨o, e, hs⟩ := ok.ex 0 _ ok.st b hb
    exact own_get F' e hs hnd
  have hst : ∀ i, Off env ds (St i) := fun i => ⟨fp, fun b hb => ⟨hfo b hb, ok.off b hb⟩, fun h st b hb => let ⟨o, e, _⟩ := ok.ex i h st b hb; ⟨o, e⟩, fun h h' st kk => ok.walks.frame i h h' st fun b hb o e => (kk b hb).trans e⟩
  have hstep : ∀ i, Stable env fun h => (Zx h ∧ St i h) ∧ Y i h := fun i => by
    have h1 : Stable env (Y i) := ⟨ds, fun b hb => ⟨hdo b hb, by simp⟩, fun h y b hb => hYx i h y b hb, fun h h' y kk => hY i h h' y kk⟩
    exact ((hZ.and (hst i)).less (by simp)).and h1
  refine codeAny_forLoop_any (fun n s1 => ∃ i, i ≤ items.length ∧ n = items.length + 1 - i ∧ FIP w s0 env (M i) cm (fun h => (Zx h ∧ St i h) ∧ Y i h) s1) ?_ (items.length + 1) ⟨0, Nat.zero_le _, rfl, F'.restab ⟨⟨F'.z.1, ok.st⟩, F'.z.2⟩⟩
  rintro n s1 ⟨i, hi, rfl, F1⟩
  have hg : KpH s0.heap s.heap := kp_heap F.kp
  have hwo : ∀ b ∈ wr, ∀ o, s1.heap.get? b = some o → (∀ es ep, o.data ≠ .dict es ep) ∧ (∀ v, o.data ≠ .cell v) ∧ (∀ vs n, o.data ≠ .seq vs n) := fun b hb o e => by
    obtain ⟨o', e', h1, h2⟩ := ok.ex i _ F1.z.1.2 b (ok.walks.sub b hb)
    rw [e] at e'; cases e'
    exact ⟨h1, h2, ok.nseq i _ F1.z.1.2 b hb o e⟩
  have hYk : ∀ {h'}, (∀ b o, b ∉ wr → s1.heap.get? b = some o → h'.get? b = some o) → Y i h' := fun {h'} kk => hY i _ _ F1.z.2 fun d hd => by
    obtain ⟨o, e⟩ := hYx i _ F1.z.2 d hd
    rw [e]
    refine kk d o (fun hm => ?_) e
    obtain ⟨o', e'⟩ := hYx 0 _ F.z.2 d hd
    rw [ok.free d hm] at e'; cases e'
  by_cases hlt : i < items.length
  · refine ok.walks.item i s1 _ _ hlt F1.z.1.2 fun v h' tk hP hSt hkk => ?_
    obtain ⟨p, hp, rp⟩ := ok.vals i v hP
    have F2 : FIP w s0 env (M i) cm (fun h => (Zx h ∧ St (i + 1) h) ∧ Y i h) { s1 with heap := h', toks := tk } :=
      F1.next hnd hg ok.free hwo hkk ⟨⟨hZ.fresh F.z.1 F1.z.1.1 ok.free hkk, hSt⟩, hYk hkk⟩
    have hzb : Stable env fun h => (Zx h ∧ St (i + 1) h) ∧ Y i h := by
      have h1 : Stable env (Y i) := ⟨ds, fun b hb => ⟨hdo b hb, by simp⟩, fun h y b hb => hYx i h y b hb, fun h h' y kk => hY i h h' y kk⟩
      exact ((hZ.and (hst (i + 1))).less (by simp)).and h1
    refine wpAny_pure (wpAny_assign_Name (SX.store F2 hzb (rp.flat (hfl p (List.mem_of_getElem? hp))) hl hk fun s3 F3 _ => ?_))
    refine no_mono (turn i p _ hzb hp (hZ.and (hst (i + 1))) (fun h z => z.1) s3 F3) fun f s4 h4 => ?_
    cases f with
    | next => exact ⟨items.length + 1 - (i + 1), by omega, i + 1, hlt, rfl, h4⟩
    | cont => exact ⟨items.length + 1 - (i + 1), by omega, i + 1, hlt, rfl, h4⟩
    | brk => exact hbrk i s4 hlt (h4.restab ⟨h4.z.1.1, h4.z.2⟩)
    | ret v => exact h4
  · have hin : i = items.length := by omega
    subst hin
    refine ok.walks.done s1 _ _ F1.z.1.2 fun h' tk hkk => ?_
    have F2 : FIP w s0 env (M items.length) cm (fun h => Zx h ∧ Y items.length h) { s1 with heap := h', toks := tk } :=
      F1.next hnd hg ok.free hwo hkk ⟨hZ.fresh F.z.1 F1.z.1.1 ok.free hkk, hYk hkk⟩
    exact no_mono (hels _ F2) fun f s3 h3 => by cases f <;> exact h3

theorem ItV.tup {I : Inv} {iter : Expr} {items : List PV} (hA : A.handled = none) (he : EV w A env I iter (.tup items)) : ItV w A env I [] iter items := fun s F Q E hQ =>
  he.use F fun v s' r k F' => by
    simp only [Rep] at r
    obtain ⟨a, us, rfl, ⟨n, ho⟩, rr⟩ := r
    have hl : s'.heap.IsTuple a us := ⟨_, ho, rfl, n, rfl⟩
    have hlt := Heap.lt_size ho
    refine wpAny_pyIter_tuple hl (hQ _ s'.heap.objs.size [s'.heap.objs.size, a] [s'.heap.objs.size] (fun i v => us[i]? = some v) (fun i h => h.IsTupleIter s'.heap.objs.size a i ∧ h.IsTuple a us) (kp_trans k ⟨_, _, rfl, fun b o e => Heap.get?_push_of_some _ e⟩) (ItOk.mk ?_ (fun i v hv => ?_) ⟨⟨_, Heap.get?_push_size _ rfl, rfl, rfl⟩, hl.push _⟩ ?_ ?_ ?_ (by simp)))
    · exact (by simpa using repL_len rr : us.size = items.length) ▸ Walks.tuple hA s'.heap.objs.size a (Nat.ne_of_lt hlt) us
    · obtain ⟨p, hp, rp⟩ := repL_get' rr i v (by simpa using hv)
      exact ⟨p, hp, rp.keeps fun b o e => Heap.get?_push_of_some _ e⟩
    · intro b hb
      simp only [List.mem_singleton] at hb; subst hb
      cases hq : s.heap.get? s'.heap.objs.size with
      | none => rfl
      | some o' => exact absurd (Heap.lt_size (kp_heap k _ _ hq)) (Nat.lt_irrefl _)
    · rintro i h ⟨⟨o1, e1, _, d1⟩, ⟨o2, e2, _, n2, d2⟩⟩ b hb
      simp only [List.mem_cons, List.not_mem_nil, or_false] at hb
      rcases hb with rfl | rfl
      · exact ⟨o1, e1, (fun _ _ e => by rw [d1] at e; cases e), (fun _ e => by rw [d1] at e; cases e)⟩
      · exact ⟨o2, e2, (fun _ _ e => by rw [d2] at e; cases e), (fun _ e => by rw [d2] at e; cases e)⟩
    · rintro i h ⟨⟨o1, e1, _, d1⟩, _⟩ b hb o e vs n d
      simp only [List.mem_singleton] at hb; subst hb
      rw [e1] at e; cases e; rw [d1] at d; cases d
end
end Mine
end
section
open PySem PySem.W PyProof.Rows
namespace Mine
section
variable {w : World} {A : Around} {env : Env} {I : Inv}
theorem post_add {x y : Str} {t u : Tok} {s : Shared} (hl : (x ++ y).length ≤ sizeLine) :
    (if x.length == 0 then Made.val (.str y u) else if y.length == 0 then Made.val (.str x t) else Made.str (x ++ y)).post (fun v s' => Rep s'.heap (.str (x ++ y)) v ∧ Keeps s s') s := by
  by_cases hx : (x.length == 0) = true
  · rw [if_pos hx, Str.append_left_empty hx]; exact ⟨rep_str, kp_refl _⟩
  · rw [if_neg hx]
    by_cases hy : (y.length == 0) = true
    · rw [if_pos hy, Str.append_right_empty hy]; exact ⟨rep_str, kp_refl _⟩
    · rw [if_neg hy]; exact ⟨hl, rep_str, kp_toks _ _⟩
theorem OpV.add_str {x y : Str} (hl : (x ++ y).length ≤ sizeLine) : OpV w A .Add (.str x) (.str y) (.str (x ++ y)) := fun s va vb ra rb => by
  simp only [Rep] at ra rb; obtain ⟨t, rfl⟩ := ra; obtain ⟨u, rfl⟩ := rb
  exact PySem.P.add_str (post_add hl)
theorem IOpV.add_str {x y : Str} (hl : (x ++ y).length ≤ sizeLine) : IOpV w A .Add (.str x) (.str y) (.str (x ++ y)) := fun s va vb ra rb => by
  simp only [Rep] at ra rb; obtain ⟨t, rfl⟩ := ra; obtain ⟨u, rfl⟩ := rb
  exact PySem.P.iadd_str (post_add hl)
theorem CmpV.eq_str {x y : Str} : CmpV w A .Eq (.str x) (.str y) (x.cps.toList == y.cps.toList) := fun s va vb ra rb => by
  simp only [Rep] at ra rb; obtain ⟨t, rfl⟩ := ra; obtain ⟨u, rfl⟩ := rb
  exact PySem.P.eq_str ⟨rep_bool, kp_refl _⟩
theorem CmpV.ne_str {x y : Str} : CmpV w A .NotEq (.str x) (.str y) (x.cps.toList != y.cps.toList) := fun s va vb ra rb => by
  simp only [Rep] at ra rb; obtain ⟨t, rfl⟩ := ra; obtain ⟨u, rfl⟩ := rb
  exact PySem.P.ne_str ⟨rep_bool, kp_refl _⟩
theorem CmpV.as {op : CmpOp} {a b : PV} {c d : Bool} (h : CmpV w A op a b c) (e : c = d) : CmpV w A op a b d := e ▸ h
theorem EV.ites {t a b : Expr} {pos : Pos} {c : Bool} {x y : Str} (ht : EB w A env I t c) (ha : EV w A env I a (.str x)) (hb : EV w A env I b (.str y)) : EV w A env I (.IfExp t a b pos) (.str (if c then x else y)) :=
  EV.ifexp ht (fun h => by rw [if_pos h]; exact ha) (fun h => by rw [h]; exact hb)

theorem EV.tuple {es : List Expr} {k : Nat} {pos : Pos} {pvs : List PV} (h : EVs w A env I pos es pvs) (hsz : pvs.length ≤ sizeLine) : EV w A env I (.Tuple es k pos) (.tup pvs) := fun s F =>
  Tuple_ (no_mono (h s F) fun vs s' x => by
    refine wpAny_newObj_type ⟨?_, kp_trans x.2 ⟨_, _, rfl, fun b o e => Heap.get?_push_of_some _ e⟩⟩ (by show vs.toArray.size ≤ sizeLine; rw [List.size_toArray, repL_len x.1]; exact hsz)
    simp only [Rep]
    exact ⟨_, vs.toArray, rfl, ⟨_, Heap.get?_push_size _ rfl⟩, by simpa using x.1.keeps (fun b o e => Heap.get?_push_of_some _ e)⟩)
theorem EV.plist {es : List Expr} {pos : Pos} {pvs : List PV} (h : EVs w A env I pos es pvs) (hsz : pvs.length ≤ sizeLine) : EV w A env I (.List es pos) (.plist pvs) := fun s F =>
  List_ (no_mono (h s F) fun vs s' x => by
    refine wpAny_newObj_type ⟨?_, kp_trans x.2 ⟨_, _, rfl, fun b o e => Heap.get?_push_of_some _ e⟩⟩ (by show vs.toArray.size ≤ sizeLine; rw [List.size_toArray, repL_len x.1]; exact hsz)
    simp only [Rep]
    exact ⟨_, vs.toArray, rfl, ⟨_, Heap.get?_push_size _ rfl⟩, by simpa using x.1.keeps (fun b o e => Heap.get?_push_of_some _ e)⟩)
theorem EV.list {es : List Expr} {pos : Pos} {pvs : List PV} (h : EVs w A env I pos es pvs) (hsz : pvs.length ≤ sizeLine) : EV w A env I (.List es pos) (.list pvs) := (EV.plist h hsz).weak

theorem nd_of {names : List (Str × NameKind)} {n : Nat} (h : ((cellsFrom 0 names []).map (·.1)).Nodup) : ((cellsFrom n names []).map (·.1)).Nodup := cellsFrom_names names 0 n [] [] rfl ▸ h
theorem SX.weak {s0 : Shared} {m m' cm : List (Str × PV)} {Z : Heap → Prop} {hz : Stable env Z} {R : Flow → Shared → Prop} {ss : List Stmt} (h : SX w A env (FI w s0 env m' cm Z hz) ss R) (hm : ∀ p ∈ m', m.lookup p.1 = some p.2) : SX w A env (FI w s0 env m cm Z hz) ss R :=
  fun s F => h s (FIP.weaken F hm)
/-- the common form of a for loop: one name, no break, nothing owned -/
theorem SX.for1 {s0 : Shared} {m cm : List (Str × PV)} {Z : Heap → Prop} {hz : Stable env Z} {R : Flow → Shared → Prop} {ss : List Stmt} {x : Str} {px pos : Pos} {iter : Expr} {body : List Stmt} {items : List PV} (M : Nat → List (Str × PV)) (hm : M 0 = m)
    (hit : ItV w A env (FI w s0 env m cm Z hz) [] iter items) (hfl : ∀ p ∈ items, Flat p = true) (hl : env.kindOf x = some .local) (hk : env.scope.kind = .function) (hnd : (env.cells.map (·.1)).Nodup)
    (turn : ∀ i p Zb (hzb : Stable env Zb), items[i]? = some p → SX w A env (FI w s0 env ((x, p) :: M i) cm Zb hzb) body (fun f s' => f = .next ∧ FIP w s0 env (M (i + 1)) cm Zb s'))
    (hn : SX w A env (FI w s0 env (M items.length) cm Z hz) ss R)
    (hs : ∀ x, foldedSetIterable iter env x = pure x) :
    SX w A env (FI w s0 env m cm Z hz) (.For (.Name x px) iter body [] pos :: ss) R := fun s F => by
  refine SX.for_ (w := w) (A := A) (s0 := s0) (m := m) (cm := cm) (R := R) (ss := ss) (px := px) (pos := pos) (body := body) (orelse := []) (items := items) [] M (fun _ => []) (fun _ _ => True) (fun _ _ => False) Z hz
    (fun _ _ _ _ _ => trivial) (fun _ _ _ _ h => by simp at h) (by simp) hnd (fun _ => hz.and Stable.tt) hm (iter := iter) (x := x) (fun s F => hit s (FIP.restab F F.z.1)) hfl hl hk ?_ ?_ ?_ hs s (FIP.restab F ⟨F.z, trivial⟩)
  · intro i p Zb hzb hp ho _ s F
    refine wpAny_mono (turn i p Zb ho hp s (FIP.restab F F.z.1)) (fun f s' x => ?_) fun _ _ x => x
    obtain ⟨rfl, G⟩ := x
    exact G.restab ⟨G.z, trivial⟩
  · exact fun s F => wpAny_execs_nil (hn s (F.restab F.z.1))
  · exact fun i s _ F => F.z.2.elim
end
end Mine
end
section
open PySem PySem.W PyProof.Rows
namespace Mine
local macro_rules | `(tactic| walk_at "lk") => `(tactic| first | with_reducible exact at_here | ((with_reducible refine' at_there (by kernel_rfl) ?h1); (case h1 => walk_at "lk")))
local macro_rules | `(tactic| walk_at "op") => `(tactic| first | exact OpV.add_int | exact OpV.sub_int | exact OpV.and_int | exact OpV.xor_int | exact OpV.mod_int (by first | decide +kernel | omega) | exact OpV.div_int (by first | decide +kernel | omega) (by first | decide +kernel | omega) | exact OpV.pow_int (by first | decide +kernel | omega) (by first | decide +kernel | omega) (by first | decide +kernel | omega) | exact OpV.mul_int (by omega) (by omega))
local macro_rules | `(tactic| walk_at "cmp") => `(tactic| first | exact CmpV.eq_int | exact CmpV.ne_int | exact CmpV.lt_int | exact CmpV.gt_int | exact CmpV.le_int | exact CmpV.ge_int | exact CmpV.eq_str | exact CmpV.ne_str)
local macro_rules | `(tactic| walk_at "evs") => `(tactic| first | with_reducible exact EVs.nil | ((with_reducible refine' EVs.cons ?h1 ?h2 ?h3); (case h3 => exact rfl); (case h1 => walk_at "ev"); (case h2 => walk_at "evs")))
local macro_rules | `(tactic| walk_at "ev") => `(tactic| first
  | with_reducible assumption
  | with_reducible exact EV.int | with_reducible exact EV.str | with_reducible exact EV.bool | with_reducible exact EV.none
  | ((with_reducible refine' EV.loc ?h1 (by kernel_rfl) (by kernel_rfl) (by kernel_rfl)); (case h1 => walk_at "lk"))
  | ((with_reducible refine' EV.cell ?h1 (by kernel_rfl) (by kernel_rfl) (by kernel_rfl) (by kernel_rfl)); (case h1 => walk_at "lk"))
  | ((with_reducible refine' EV.binop ?h1 ?h2 ?h3); (case h1 => walk_at "ev"); (case h2 => walk_at "ev"); (case h3 => walk_at "op"))
  | ((with_reducible refine' EV.tuple ?h1 ?h2); (case h1 => walk_at "evs"); (case h2 => first | (show List.length _ ≤ 16777216; simp only [List.length_cons, List.length_nil]; omega) | size_fits))
  | ((with_reducible refine' EV.ites ?h1 ?h2 ?h3); (case h1 => walk_at "eb"); (case h2 => walk_at "ev"); (case h3 => walk_at "ev")))
local macro_rules | `(tactic| walk_at "eb") => `(tactic| first
  | with_reducible assumption
  | ((with_reducible refine' EB.cmp ?h1 ?h2 ?h3); (case h1 => walk_at "ev"); (case h2 => walk_at "ev"); (case h3 => walk_at "cmp"))
  | ((with_reducible refine' EB.not ?h1); (case h1 => walk_at "eb")))
section
noncomputable def kindL : List Nat := [63, 112, 99, 63, 100, 63, 98, 63, 45, 63, 108, 63, 115, 63, 63, 63]
noncomputable def kindC (n : Nat) : Nat := kindL.getD n 63
noncomputable def fig (m k : Nat) : Nat := m / 2 ^ k % 8
noncomputable def sp (m k : Nat) : Bool := m / 2 ^ (9 + k / 3) % 2 == 1
noncomputable def tri (m k : Nat) : List Nat :=
  [if fig m k > 3 then 114 else 45, if fig m k / 2 % 2 = 1 then 119 else 45,
    if sp m k then (if k > 0 then (if fig m k % 2 = 1 then 115 else 83) else (if fig m k % 2 = 1 then 116 else 84)) else (if fig m k % 2 = 1 then 120 else 45)]
noncomputable def ks : List Nat := [6, 3, 0]
noncomputable def sgL (m : Nat) : List Nat := kindC (m / 4096) :: (tri m 6 ++ tri m 3 ++ tri m 0)
noncomputable def S (l : List Nat) : Str := ⟨l.toArray⟩
noncomputable def sg (m : Nat) : Str := S (sgL m)
noncomputable def sgP (m : Nat) : Nat → List Nat
  | 0 => [kindC (m / 4096)]
  | 1 => [kindC (m / 4096)] ++ tri m 6
  | 2 => [kindC (m / 4096)] ++ tri m 6 ++ tri m 3
  | _ => [kindC (m / 4096)] ++ tri m 6 ++ tri m 3 ++ tri m 0

theorem kind_at (n : Nat) (h : n < 13) : (Str.ofString "?pc?d?b?-?l?s???").cps[n]? = some (kindC n) := by
  have : ∀ n < 13, (Str.ofString "?pc?d?b?-?l?s???").cps[n]? = some (kindC n) := by decide +kernel
  exact this n h
theorem fdiv_nat (a b : Nat) : (a : Int).fdiv (b : Int) = ((a / b : Nat) : Int) := by
  rw [Int.fdiv_eq_ediv_of_nonneg _ (by omega)]; norm_cast
theorem fmod_nat (a b : Nat) : (a : Int).fmod (b : Int) = ((a % b : Nat) : Int) := by
  rw [Int.fmod_eq_emod_of_nonneg _ (by omega)]; norm_cast

theorem S_append (a b : List Nat) : S a ++ S b = S (a ++ b) := by
  show Str.mk (a.toArray ++ b.toArray) = Str.mk (a ++ b).toArray
  simp
theorem S_length (a : List Nat) : (S a).length = a.length := by simp [S, Str.length]
theorem fig_int (m k : Nat) : ((m : Int).fdiv (2 ^ ((k : Int)).toNat)).fmod 8 = ((fig m k : Nat) : Int) := by
  rw [Int.toNat_natCast, show (2 : Int) ^ k = ((2 ^ k : Nat) : Int) by push_cast; rfl, fdiv_nat]
  exact fmod_nat _ 8
theorem sp_int (m k : Nat) : (((m : Int).fdiv (2 ^ ((9 : Int) + (k : Int).fdiv 3).toNat)).fmod 2 == 1) = sp m k := by
  have h : ((9 : Int) + (k : Int).fdiv 3).toNat = 9 + k / 3 := by
    rw [show (3 : Int) = ((3 : Nat) : Int) from rfl, fdiv_nat]; omega
  rw [h, show (2 : Int) ^ (9 + k / 3) = ((2 ^ (9 + k / 3) : Nat) : Int) by push_cast; rfl, fdiv_nat, show (2 : Int) = ((2 : Nat) : Int) from rfl, fmod_nat]
  unfold sp
  rw [Bool.eq_iff_iff]; simp only [beq_iff_eq]; omega
section
variable {w : World} {A : Around} {env : Env} {I : Inv}
theorem OpV.div_pow {a b : Int} (hb : 0 ≤ b) (hn : b ≤ 20) : OpV w A .FloorDiv (.int a) (.int (2 ^ b.toNat)) (.int (a.fdiv (2 ^ b.toNat))) := by
  have h : (2 : Int) ^ b.toNat = ((2 ^ b.toNat : Nat) : Int) := by push_cast; rfl
  have h1 : 0 < 2 ^ b.toNat := Nat.two_pow_pos _
  have h2 : 2 ^ b.toNat ≤ 2 ^ 20 := Nat.pow_le_pow_right (by decide) (by omega)
  refine OpV.div_int ?_ ?_
  · rw [h]; omega
  · rw [h, Int.natAbs_natCast]; omega
theorem IOpV.add_S {a b : List Nat} (h : a.length + b.length ≤ 1000) : IOpV w A .Add (.str (S a)) (.str (S b)) (.str (S (a ++ b))) := by
  rw [← S_append]
  exact IOpV.add_str (by rw [S_append, S_length, List.length_append]; show _ ≤ 16777216; omega)
theorem EV.strS {x : Str} {k : Nat} {pos : Pos} {l : List Nat} (h : x = S l) : EV w A env I (.Constant (.str x) k pos) (.str (S l)) := h ▸ EV.str
end

theorem sgP_len (m : Nat) : ∀ i, (sgP m i).length ≤ 20
  | 0 => by simp [sgP]
  | 1 => by simp [sgP, tri]
  | 2 => by simp [sgP, tri]
  | _ + 3 => by simp [sgP, tri]

set_option maxHeartbeats 4000000 in
theorem pc_law_signs (w : World) (m : Nat) (hm : m < 53248) : PC w 1 219 [.int (m : Int)] (.str (sg m)) := by
  have hd : (Mine.suf.o_224 w.params).data = .func _ := rfl
  refine PC.body [Str.ofString "mode"] [(Str.ofString "mode", .int m)] rfl (by kernel_rfl) hd (by kernel_rfl) rfl rfl rfl (fun vs h => ?_) ?_ rfl rfl rfl (fun L => Stable.tt) fun A s L hA => ?_
  · obtain ⟨v, rfl⟩ := len1 h; rfl
  · decide +kernel
  refine SX.assign (pv := .str (S [kindC (m / 4096)])) ?_ (by kernel_rfl) (by kernel_rfl) (by rfl) ?_
  · show EV _ _ _ _ _ (.str ⟨#[kindC (m / 4096)]⟩)
    refine EV.sub (a := .str (Str.ofString "?pc?d?b?-?l?s???")) (i := .int ((m / 4096 : Nat) : Int)) EV.str ?_ (SubV.str (kind_at _ (by omega)) (by omega) (fun t u => by with_unfolding_all rfl) (fun t r => by with_unfolding_all rfl))
    refine EV.as (p := .int ((m : Int).fdiv 4096)) ?_ (congrArg PV.int (fdiv_nat m 4096))
    walk_at "ev"
  refine SX.for1 (items := [.int 6, .int 3, .int 0]) (fun i => [(Str.ofString "signs", .str (S (sgP m i))), (Str.ofString "mode", .int m)]) rfl (ItV.tup hA.1 ?_) (by simp [Flat]) (by kernel_rfl) (by kernel_rfl) (nd_of (by decide +kernel)) ?_ ?_ (fun x => rfl)
  · walk_at "ev"
  · intro i p Zb hzb hp
    have hk : ∃ k : Nat, p = .int k ∧ (k = 6 ∨ k = 3 ∨ k = 0) ∧ sgP m (i + 1) = sgP m i ++ tri m k := by
      match i, hp with
      | 0, hp => exact ⟨6, by simpa using hp.symm, by simp, rfl⟩
      | 1, hp => exact ⟨3, by simpa using hp.symm, by simp, rfl⟩
      | 2, hp => exact ⟨0, by simpa using hp.symm, by simp, rfl⟩
      | n + 3, hp => simp at hp
    obtain ⟨k, rfl, hk, e⟩ := hk
    rw [e]
    have hl := sgP_len m i
    generalize sgP m i = pre at hl
    have hk6 : k ≤ 6 := by omega
    refine SX.assign (pv := .int (fig m k : Nat)) (EV.as (p := .int (((m : Int).fdiv (2 ^ ((k : Int)).toNat)).fmod 8)) ?_ (congrArg PV.int (fig_int m k))) (by kernel_rfl) (by kernel_rfl) (by rfl) ?_
    · refine EV.binop (EV.binop ?_ (EV.binop EV.int ?_ (OpV.pow_int (by decide +kernel) (by omega) (by omega))) (OpV.div_pow (by omega) (by omega))) EV.int (OpV.mod_int (by decide))
      · walk_at "ev"
      · walk_at "ev"
    have hf : fig m k < 8 := Nat.mod_lt _ (by decide)
    refine SX.aug (a := .str (S pre)) (b := .str (S [if fig m k > 3 then 114 else 45])) (by walk_at "lk") ?_ (IOpV.add_S (by simp; omega)) (by kernel_rfl) (by kernel_rfl) ?_
    · refine EV.as (EV.ites (c := decide ((3 : Int) < (fig m k : Nat))) (by walk_at "eb") (EV.strS (l := [114]) (by decide +kernel)) (EV.strS (l := [45]) (by decide +kernel))) (congrArg PV.str ?_)
      by_cases h : fig m k > 3
      · rw [if_pos (by simp; omega), if_pos h]
      · rw [if_neg (by simp; omega), if_neg h]
    refine SX.aug (a := .str (S (pre ++ [if fig m k > 3 then 114 else 45]))) (b := .str (S [if fig m k / 2 % 2 = 1 then 119 else 45])) (by walk_at "lk") ?_ (IOpV.add_S (by simp; omega)) (by kernel_rfl) (by kernel_rfl) ?_
    · refine EV.as (EV.ites (c := (((fig m k : Nat) : Int).fdiv 2).fmod 2 == 1) (by walk_at "eb") (EV.strS (l := [119]) (by decide +kernel)) (EV.strS (l := [45]) (by decide +kernel))) (congrArg PV.str ?_)
      have e2 : (((fig m k : Nat) : Int).fdiv 2).fmod 2 = ((fig m k / 2 % 2 : Nat) : Int) := by
        rw [show (2 : Int) = ((2 : Nat) : Int) from rfl, fdiv_nat, fmod_nat]
      rw [e2]
      by_cases h : fig m k / 2 % 2 = 1
      · rw [if_pos (by simp; omega), if_pos h]
      · rw [if_neg (by simp; omega), if_neg h]
    refine SX.assign (EV.strS (l := [45, 120]) (by decide +kernel)) (by kernel_rfl) (by kernel_rfl) (by rfl) ?_
    have e2 : ((fig m k : Nat) : Int).fmod 2 = ((fig m k % 2 : Nat) : Int) := by rw [show (2 : Int) = ((2 : Nat) : Int) from rfl, fmod_nat]
    have e3 : pre ++ [if fig m k > 3 then 114 else 45] ++ [if fig m k / 2 % 2 = 1 then 119 else 45] ++ [(tri m k).getD 2 0] = pre ++ tri m k := by simp [tri]
    have h2 : fig m k % 2 = 0 ∨ fig m k % 2 = 1 := by omega
    refine SX.if_ (b := sp m k) ?_ (fun h => ?_) (fun h => ?_)
    · rw [← sp_int]
      refine EB.cmp (EV.binop (EV.binop ?_ (EV.binop EV.int (EV.binop EV.int (EV.binop ?_ EV.int (OpV.div_int (by decide) (by decide))) OpV.add_int) (OpV.pow_int (by decide +kernel) ?_ ?_)) (OpV.div_pow ?_ ?_)) EV.int (OpV.mod_int (by decide))) EV.int CmpV.eq_int
      · walk_at "ev"
      · walk_at "ev"
      all_goals (rw [show (3 : Int) = ((3 : Nat) : Int) from rfl, fdiv_nat]; omega)
    · refine SX.assign (pv := .str (S (if k > 0 then [83, 115] else [84, 116]))) (EV.as (EV.ites (c := decide ((0 : Int) < (k : Nat))) (by walk_at "eb") (EV.strS (l := [83, 115]) (by decide +kernel)) (EV.strS (l := [84, 116]) (by decide +kernel))) (congrArg PV.str ?_)) (by kernel_rfl) (by kernel_rfl) (by rfl) ?_
      · by_cases h : k > 0
        · rw [if_pos (by simp; omega), if_pos h]
        · rw [if_neg (by simp; omega), if_neg h]
      refine SX.then_nil (SX.aug (b := .str (S [(tri m k).getD 2 0])) (by walk_at "lk") (EV.sub (a := .str (S (if k > 0 then [83, 115] else [84, 116]))) (i := .int (fig m k % 2 : Nat)) (by walk_at "ev") (EV.as (p := .int (((fig m k : Nat) : Int).fmod 2)) (by walk_at "ev") (congrArg PV.int e2)) (SubV.str ?_ (by omega) (fun t u => by with_unfolding_all rfl) (fun t r => by with_unfolding_all rfl))) (IOpV.add_S (by simp; omega)) (by kernel_rfl) (by kernel_rfl) (SX.nil fun s' F => ⟨rfl, ?_⟩))
      · rcases h2 with h2 | h2 <;> by_cases hk0 : k > 0 <;> simp [S, tri, h, h2, hk0]
      · rw [e3] at F
        refine F.weaken fun p hp => ?_
        simp only [List.mem_cons, List.not_mem_nil, or_false] at hp
        rcases hp with rfl | rfl
        · walk_at "lk"
        · walk_at "lk"
    · refine SX.then_nil (SX.aug (b := .str (S [(tri m k).getD 2 0])) (by walk_at "lk") (EV.sub (a := .str (S [45, 120])) (i := .int (fig m k % 2 : Nat)) (by walk_at "ev") (EV.as (p := .int (((fig m k : Nat) : Int).fmod 2)) (by walk_at "ev") (congrArg PV.int e2)) (SubV.str ?_ (by omega) (fun t u => by with_unfolding_all rfl) (fun t r => by with_unfolding_all rfl))) (IOpV.add_S (by simp; omega)) (by kernel_rfl) (by kernel_rfl) (SX.nil fun s' F => ⟨rfl, ?_⟩))
      · rcases h2 with h2 | h2 <;> simp [S, tri, h, h2]
      · rw [e3] at F
        refine F.weaken fun p hp => ?_
        simp only [List.mem_cons, List.not_mem_nil, or_false] at hp
        rcases hp with rfl | rfl
        · walk_at "lk"
        · walk_at "lk"
  · refine SX.ret (pv := .str (sg m)) ?_ fun s' v F r => ⟨v, rfl, r, FIP.kp F⟩
    refine EV.as (p := .str (S (sgP m 3))) ?_ rfl
    dsimp only [List.length_cons, List.length_nil]
    walk_at "ev"
end
section
section
variable {prog : Program} {w : World} {A : Around} {E : Value → Shared → Prop} {s : Shared}
theorem args_isub_nested (a b c : Value) : argsOk "issubclass.nested" ⟨[a, b, c], []⟩ := by unfold argsOk; kernel_rfl
theorem kind_isub_nested : builtinKind "issubclass.nested" = none := by decide +kernel
theorem plain_isub_nested : plainId "issubclass.nested" = true := by decide +kernel
theorem sub_str_str : isSubtype (.type "str") (.type "str") = pure true := by rw [isSubtype_type]; kernel_rfl
theorem sub_tup_tup : isSubtype (.type "tuple") (.type "tuple") = pure true := by rw [isSubtype_type]; kernel_rfl
theorem meets_isub1 (t : Tok) : Meets (Builtin.«issubclass.nested» ⟨[.type "str", .type "str", .int 1 t], []⟩) (fun _ R s => R (.ok (.ret (.bool true))) s) := by
  intro prog w A R s h
  have hs := sub_str_str
  repeat (any_goals (first | assumption | (rw [hs]) | wp_step))
theorem meets_isub0 (a : Addr) (dd : Option Addr) (n : Nat) (sl : Array (Option Value)) : Meets (Builtin.«issubclass.nested» ⟨[.type "str", .ref a, rawInt 0], []⟩) (fun _ R s => s.heap.get? a = some { cls := .type "tuple", dict := dd, data := .seq #[.type "str", .type "bytes"] n, slots := sl } ∧ R (.ok (.ret (.bool true))) s) := by
  intro prog w A R s ⟨ha, h⟩
  obtain ⟨hp, g, d, tk, os⟩ := s
  wp_walk using wpAny_seqItems ha rfl
  rw [sub_tup_tup]
  refine wpAny_pure ?_
  rw [if_pos rfl]
  dsimp only
  rw [if_neg (by decide +kernel)]
  refine wpAny_bind (wpAny_seqItems ha rfl ?_)
  rw [← Array.forIn_toList]
  show wpAny _ _ ((forIn [Value.type "str", Value.type "bytes"] _ _) >>= _) _ _ _
  rw [List.forIn_cons]
  refine wpAny_bind (wpAny_bind (wpAny_bind (call_function_meets kind_isub_nested plain_isub_nested F.entry_issubclass_nested (args_isub_nested _ _ _) (meets_isub1 0) ?_)))
  show wpAny _ _ (truthy (Value.bool true) >>= _) _ _ _
  refine wpAny_bind (wpAny_truthy_bool ?_)
  rw [if_pos rfl]
  repeat (any_goals (first | assumption | wp_step))
theorem CallV.isub_str : CallV w A "issubclass" [.val (.type "str"), .tup [.val (.type "str"), .val (.type "bytes")]] (.bool true) := fun s vs r => by
  simp only [RepL, Rep] at r
  obtain ⟨v, vs', rfl, rfl, v2, vs2, rfl, ⟨a, us, rfl, ⟨n, ht⟩, x1, l1, e1, rfl, x2, l2, rfl, rfl, rfl⟩, rfl⟩ := r
  have eu : us = #[.type "str", .type "bytes"] := by rw [← Array.toArray_toList (xs := us), e1]
  subst eu
  exact PyProof.Rows.call_issubclass (S := fun _ R s => s.heap.get? a = some { cls := .type "tuple", dict := Option.none, data := .seq #[.type "str", .type "bytes"] n, slots := #[] } ∧ R (.ok (.ret (.bool true))) s) (fun prog w A R s h => PyProof.Rows.issubclass_outer (meets_isub0 a _ n _ prog w A R s h)) ⟨ht, rep_bool, kp_refl _⟩
end
section
variable {w : World} {A : Around} {env : Env} {I : Inv}
theorem EV.typeof {x : Str} {p pos : Pos} {e : Expr} {y : Str} (hn : EV w A env I (.Name x p) (.val (.type "type"))) (he : EV w A env I e (.str y))
    (h1 : eval (.Call (.Name x p) [e] [] pos) env = (do callWith pos (← eval (.Name x p) env) [] (backTo pos (starEach [e] env)) (backToKw pos (keywordEach [] env))) := by rfl)
    (h2 : starEach [e] env = (false, eval e env) :: starEach [] env := by rfl) : EV w A env I (.Call (.Name x p) [e] [] pos) (.val (.type "str")) := fun s F =>
  Call_ (hn.use F fun v s' r k F' => by
    simp only [Rep] at r; subst r
    refine PyProof.Rows.callWith_type1 (args_cons (he.use F' fun v2 s2 r2 k2 F2 => args_nil ?_) h2) h2
    simp only [Rep] at r2; obtain ⟨t, rfl⟩ := r2
    refine call_type_of (typeIs_str s2 y t) (by decide) ⟨?_, kp_trans k k2⟩
    simp only [Rep]) h1
end
theorem CallV.isi_str_bytes {w : World} {A : Around} {x : Str} : CallV w A "isinstance" [.str x, .val (.type "bytes")] (.bool false) := fun s vs r => by
  simp only [RepL, Rep] at r
  obtain ⟨v, vs', rfl, ⟨t, rfl⟩, v2, vs2, rfl, rfl, rfl⟩ := r
  exact IsiPair.str_bytes ⟨rep_bool, kp_toks _ _⟩
theorem b_isi {P : Params} : nsFind (esMain P) (Str.ofString "isinstance") = none ∧ nsFind (esBui P) (Str.ofString "isinstance") = some (.builtin "isinstance") := ⟨by kernel_rfl, by kernel_rfl⟩
theorem b_isub {P : Params} : nsFind (esMain P) (Str.ofString "issubclass") = none ∧ nsFind (esBui P) (Str.ofString "issubclass") = some (.builtin "issubclass") := ⟨by kernel_rfl, by kernel_rfl⟩
theorem b_bytes {P : Params} : nsFind (esMain P) (Str.ofString "bytes") = none ∧ nsFind (esBui P) (Str.ofString "bytes") = some (.type "bytes") := ⟨by kernel_rfl, by kernel_rfl⟩
theorem b_str {P : Params} : nsFind (esMain P) (Str.ofString "str") = none ∧ nsFind (esBui P) (Str.ofString "str") = some (.type "str") := ⟨by kernel_rfl, by kernel_rfl⟩
theorem b_type {P : Params} : nsFind (esMain P) (Str.ofString "type") = none ∧ nsFind (esBui P) (Str.ofString "type") = some (.type "type") := ⟨by kernel_rfl, by kernel_rfl⟩
set_option maxHeartbeats 4000000 in
theorem pc_get_sep (w : World) (x : Str) : PC w 1 155 [.str x] (.str (S [47])) := by
  have hd : (Mine.suf.o_157 w.params).data = .func _ := rfl
  refine PC.body [Str.ofString "path"] [(Str.ofString "path", .str x)] rfl (by kernel_rfl) hd (by kernel_rfl) rfl rfl rfl (fun vs h => ?_) ?_ rfl rfl rfl (fun L => Stable.tt) fun A s L hA => ?_
  · obtain ⟨v, rfl⟩ := len1 h; rfl
  · decide +kernel
  refine SX.if_ (b := false) (EB.plain (a := .bool false) (EV.callbui (EV.bui FI.has b_isi.1 b_isi.2 ?q1 ?q2 ?q3 ?q4 ?q5) (EVs.cons (pv := .str x) ?q6 (EVs.cons (EV.bui FI.has b_bytes.1 b_bytes.2 ?q7 ?q8 ?q9 ?q10 ?q11) EVs.nil rfl) rfl) CallV.isi_str_bytes) TrV.bool) (fun h => by cases h) fun _ => ?_
  case q1 => kernel_rfl
  case q2 => rfl
  case q3 => rfl
  case q4 => rfl
  case q5 => kernel_rfl
  case q6 => walk_at "ev"
  case q7 => kernel_rfl
  case q8 => rfl
  case q9 => rfl
  case q10 => rfl
  case q11 => kernel_rfl
  exact SX.ret (pv := .str (S [47])) (EV.strS (by decide +kernel)) fun s' v F r => ⟨v, rfl, r, FIP.kp F⟩
set_option maxHeartbeats 4000000 in
theorem pc_fspath (w : World) (x : Str) : PC w 1 141 [.str x] (.str x) := by
  have hd : (Mine.suf.o_140 w.params).data = .func _ := rfl
  refine PC.body [Str.ofString "path"] [(Str.ofString "path", .str x)] rfl (by kernel_rfl) hd (by kernel_rfl) rfl rfl rfl (fun vs h => ?_) ?_ rfl rfl rfl (fun L => Stable.tt) fun A s L hA => ?_
  · obtain ⟨v, rfl⟩ := len1 h; rfl
  · decide +kernel
  refine SX.assign (EV.typeof (EV.bui FI.has b_type.1 b_type.2 ?a1 ?a2 ?a3 ?a4 ?a5) (y := x) ?a6) ?a7 ?a8 ?a9 ?_
  case a1 => kernel_rfl
  case a2 => rfl
  case a3 => rfl
  case a4 => rfl
  case a5 => kernel_rfl
  case a6 => walk_at "ev"
  case a7 => kernel_rfl
  case a8 => rfl
  case a9 => rfl
  refine SX.if_ (b := true) (EB.plain (a := .bool true) (EV.callbui (EV.bui FI.has b_isub.1 b_isub.2 ?q1 ?q2 ?q3 ?q4 ?q5) (EVs.cons (pv := .val (.type "str")) ?q6 (EVs.cons (pv := .tup [.val (.type "str"), .val (.type "bytes")]) (EV.tuple (EVs.cons (EV.bui FI.has b_str.1 b_str.2 ?c7 ?c8 ?c9 ?c10 ?c11) (EVs.cons (EV.bui FI.has b_bytes.1 b_bytes.2 ?q7 ?q8 ?q9 ?q10 ?q11) EVs.nil rfl) rfl) (by simp [sizeLine])) EVs.nil rfl) rfl) CallV.isub_str) TrV.bool) (fun _ => ?_) (fun h => by cases h)
  case q1 => kernel_rfl
  case q2 => rfl
  case q3 => rfl
  case q4 => rfl
  case q5 => kernel_rfl
  case q6 => walk_at "ev"
  case q7 => kernel_rfl
  case q8 => rfl
  case q9 => rfl
  case q10 => rfl
  case q11 => kernel_rfl
  case c7 => kernel_rfl
  case c8 => rfl
  case c9 => rfl
  case c10 => rfl
  case c11 => kernel_rfl
  exact SX.ret (pv := .str x) (by walk_at "ev") fun s' v F r => ⟨v, rfl, r, FIP.kp F⟩
section
variable {w : World} {A : Around} {env : Env} {I : Inv}
theorem EV.cmp2 {o1 o2 : CmpOp} {l m r : Expr} {pos : Pos} {a b c : PV} (hl : EV w A env I l a) (hm : EV w A env I m b) (hr : EV w A env I r c) (h1 : CmpV w A o1 a b true) (h2 : CmpV w A o2 b c true)
    (hmk : lastMarks [o1, o2] [m, r] = false := by with_unfolding_all rfl) : EV w A env I (.Compare l [o1, o2] [m, r] pos) (.bool true) := fun s F => by
  refine PyProof.Rows.Compare_chain (hl.use F fun va s1 ra k1 F1 => PyProof.Rows.chain_link (hm.use F1 fun vb s2 rb k2 F2 => no_mono (h1 s2 va vb (ra.keeps (kp_heap k2)) rb) fun v s3 x => ?_)) hmk
  obtain ⟨hv, k3⟩ := x
  simp only [Rep] at hv; subst hv
  refine wpAny_truthy_bool ?_
  rw [if_pos rfl]
  have F3 := I.mono _ _ F2 k3
  refine PyProof.Rows.chain_last (hr.use F3 fun vc s4 rc k4 F4 => (h2 s4 vb vc ((rb.keeps (kp_heap k3)).keeps (kp_heap k4)) rc).after ?_)
  exact kp_trans k1 (kp_trans k2 (kp_trans k3 k4))
theorem EV.or2 {e1 e2 : Expr} {pos : Pos} (h1 : EV w A env I e1 (.bool true)) : EV w A env I (.BoolOp .Or [e1, e2] pos) (.bool true) := fun s F =>
  PyProof.Rows.BoolOp_or (h1.use F fun v s1 r k F1 => by
    simp only [Rep] at r; subst r
    exact wpAny_truthy_bool (by rw [if_pos rfl]; exact ⟨rep_bool, k⟩))
end
theorem pc_uni (w : World) (x : Int) (hx : 0 ≤ x) (hx2 : x ≤ 55295) : PC w 1 212 [.int x] (.bool true) := by
  have hd : (Mine.suf.o_217 w.params).data = .func _ := rfl
  refine PC.body [Str.ofString "codepoint"] [(Str.ofString "codepoint", .int x)] rfl (by kernel_rfl) hd (by kernel_rfl) rfl rfl rfl (fun vs h => ?_) ?_ rfl rfl rfl (fun L => Stable.tt) fun A s L hA => ?_
  · obtain ⟨v, rfl⟩ := len1 h; rfl
  · decide +kernel
  refine SX.ret (pv := .bool true) (EV.or2 (EV.cmp2 (a := .int 0) (b := .int x) (c := .int 55295) EV.int ?q1 EV.int ?q2 ?q3)) fun s' v F r => ⟨v, rfl, r, FIP.kp F⟩
  case q1 => walk_at "ev"
  case q2 => exact (decide_eq_true hx) ▸ CmpV.le_int
  case q3 => exact (decide_eq_true hx2) ▸ CmpV.le_int
end
section
theorem starts_slash (b : List Nat) : Txt.startswith (S b) (S [47]) = (b.head? == some 47) := by
  cases b with
  | nil => rfl
  | cons c l =>
    have h : (S (c :: l)).cps.extract 0 (0 + (S [47]).length) = #[c] := by simp [S, Str.length]
    unfold Txt.startswith Builtin.Str.subAt
    rw [h]
    simp [S, Str.length]
theorem ends_slash (b : List Nat) : Txt.endswith (S b) (S [47]) = (b.getLast? == some 47) := by
  rcases List.eq_nil_or_concat b with rfl | ⟨l, c, rfl⟩
  · rfl
  · have h : (S (l ++ [c])).cps.extract ((S (l ++ [c])).length - (S [47]).length) ((S (l ++ [c])).length - (S [47]).length + (S [47]).length) = #[c] := by
      simp [S, Str.length]
    unfold Txt.endswith Builtin.Str.subAt
    rw [List.concat_eq_append, h]
    simp [S, Str.length]
section
variable {w : World} {A : Around} {env : Env} {I : Inv}
theorem SX.try_ {R : Flow → Shared → Prop} {body ss : List Stmt} {h₀ : ExceptHandler} {hs : List ExceptHandler} {pos : Pos} (h : SX w A env I body (Then w A env ss R)) : SX w A env I (.Try body (h₀ :: hs) [] [] pos :: ss) R := fun s F =>
  wpAny_execs_cons (wpAny_Try_except (no_mono (h s F) fun f s' x => by cases f <;> first | exact wpAny_execs_nil x | exact x))
theorem EV.startswith {o e : Expr} {apos pos : Pos} {x y : Str} (ho : EV w A env I o (.str x)) (he : EV w A env I e (.str y)) (hbase : attributeBase o (Str.ofString "startswith") env (eval o env) = eval o env := by rfl) (hs : starEach [e] env = [(false, eval e env)] := by rfl) (hline : (apos.endLine == pos.line) = true := by rfl) :
    EV w A env I (.Call (.Attribute o (Str.ofString "startswith") apos) [e] [] pos) (.bool (Txt.startswith x y)) := fun s F =>
  Call_method1 hbase hs hline (ho.use F fun v s' r k F' => by
    simp only [Rep] at r; obtain ⟨t, rfl⟩ := r
    exact SB.startswith (he.use F' fun v2 s2 r2 k2 F2 => by
      simp only [Rep] at r2; obtain ⟨u, rfl⟩ := r2
      exact ⟨y, u, rfl, rep_bool, kp_trans k k2⟩))
theorem EV.endswith {o e : Expr} {apos pos : Pos} {x y : Str} (ho : EV w A env I o (.str x)) (he : EV w A env I e (.str y)) (hbase : attributeBase o (Str.ofString "endswith") env (eval o env) = eval o env := by rfl) (hs : starEach [e] env = [(false, eval e env)] := by rfl) (hline : (apos.endLine == pos.line) = true := by rfl) :
    EV w A env I (.Call (.Attribute o (Str.ofString "endswith") apos) [e] [] pos) (.bool (Txt.endswith x y)) := fun s F =>
  Call_method1 hbase hs hline (ho.use F fun v s' r k F' => by
    simp only [Rep] at r; obtain ⟨t, rfl⟩ := r
    exact SB.endswith (he.use F' fun v2 s2 r2 k2 F2 => by
      simp only [Rep] at r2; obtain ⟨u, rfl⟩ := r2
      exact ⟨y, u, rfl, rep_bool, kp_trans k k2⟩))
theorem OpV.add_S {a b : List Nat} (h : a.length + b.length ≤ 1000) : OpV w A .Add (.str (S a)) (.str (S b)) (.str (S (a ++ b))) := by
  rw [← S_append]
  exact OpV.add_str (by rw [S_append, S_length, List.length_append]; show _ ≤ 16777216; omega)
theorem TrV.strS {l : List Nat} (h : l.length < 2 ^ 62) : TrV w A (.str (S l)) (l.length != 0) := fun s va r => by
  simp only [Rep] at r; obtain ⟨t, rfl⟩ := r
  refine PySem.P.truthy_str (by rw [S_length]; omega) ⟨?_, kp_toks _ _⟩
  rw [S_length]
  cases l <;> simp
  omega
end
noncomputable def Fn (w : World) (a : Addr) : Prop := ∃ o fd, (KXF w.params).lookup a = some o ∧ o.data = .func fd
theorem Fn.mk {w : World} {a : Addr} (o : Obj) {fd : FuncData} (h : (KXF w.params).lookup a = some o) (h2 : o.data = .func fd) : Fn w a := ⟨o, fd, h, h2⟩
theorem EV.fn {w : World} {A : Around} {env : Env} {I : Inv} {x : Str} {p pos : Pos} {e : Expr} {rest : List Expr} {pvs : List PV} {a : Addr} {res : PV} {d : Nat} (hc : PC w d a pvs res) (hf : Fn w a) (hA : Lv d A) (hn : EV w A env I (.Name x p) (.val (.ref a))) (ha : EVs w A env I pos (e :: rest) pvs)
    (hI : I.Has w)
    (h1 : eval (.Call (.Name x p) (e :: rest) [] pos) env = (do callWith pos (← eval (.Name x p) env) [] (backTo pos (starEach (e :: rest) env)) (backToKw pos (keywordEach [] env))) := by rfl)
    (h2 : starEach (e :: rest) env = (false, eval e env) :: starEach rest env := by rfl) : EV w A env I (.Call (.Name x p) (e :: rest) [] pos) res := by
  obtain ⟨o, fd, ho, hd⟩ := hf
  exact EV.calldef hn ha hI ho hd hc hA h1 h2
theorem fn_fspath (w : World) : Fn w 141 := .mk (Mine.suf.o_140 w.params) (by kernel_rfl) rfl
theorem fn_get_sep (w : World) : Fn w 155 := .mk (Mine.suf.o_157 w.params) (by kernel_rfl) rfl
/-- as PC.body, for a function whose last parameter gathers what is left -/
theorem PC.bodyV {w : World} {a : Addr} {o : Obj} {fd : FuncData} {body : List Stmt} {d : Nat} {args more : List PV} {res : PV} (names : List Str) (ml : List (Str × PV)) (hml : (names.zip (args ++ [.tup more])).reverse ++ [] = ml) (ho : (KXF w.params).lookup a = some o) (hdata : o.data = .func fd) (hcd : codeIn (KXF w.params) fd.code fd.qualname = true)
    (hbody : fd.body = .stmts body) (hclo : fd.closure = []) (hbind : ∀ vs us, vs.length = args.length → us.length = more.length → bindArgs fd ⟨vs ++ us, []⟩ = (newTuple us >>= fun t => pure (names.zip (vs ++ [t])))) (hkind : ∀ x ∈ names, fd.scope.names.lookup x = some .local)
    (hsz : more.length ≤ sizeLine)
    (hco : fd.scope.isCoroutine = false) (hgen : fd.scope.isGenerator = false) (hk : fd.scope.kind = .function) (hZ : ∀ L, Stable (callEnvC fd L a) fun _ => True)
    (h : ∀ A s L, Lv d A → SX w A (callEnvC fd L a) (FI w s (callEnvC fd L a) ml [] (fun _ => True) (hZ L)) body (fun f s' => ∃ v, f = .ret v ∧ Rep s'.heap res v ∧ Keeps s s')) : PC w (d + 1) a (args ++ more) res := by
  subst hml
  intro A s vs hA X hr
  have hsp : ∀ {l k : List PV} {vs : List Value}, RepL s.heap (l ++ k) vs → ∃ a b, vs = a ++ b ∧ RepL s.heap l a ∧ RepL s.heap k b := by
    intro l
    induction l with
    | nil => intro k vs r; exact ⟨[], vs, rfl, by simp only [RepL], r⟩
    | cons p l ih =>
      intro k vs r
      simp only [RepL, List.cons_append] at r
      obtain ⟨v, vs', rfl, r1, r⟩ := r
      obtain ⟨x, y, rfl, r2, r3⟩ := ih r
      exact ⟨v :: x, y, rfl, by simp only [RepL]; exact ⟨v, x, rfl, r1, r2⟩, r3⟩
  obtain ⟨va, vb, rfl, ra, rb⟩ := hsp hr
  refine wpAny_call (codeAny_call_function hA.room (X.1 _ _ ho) hdata hco hgen hbody (codeRec_of X.1 hcd) ?_)
  rw [hbind va vb (repL_len ra) (repL_len rb), hclo]
  refine wpAny_bind (wpAny_newObj_type ?_ (by show vb.toArray.size ≤ sizeLine; rw [List.size_toArray, repL_len rb]; exact hsz))
  have kp1 : Keeps s { s with heap := s.heap.push { cls := .type "tuple", data := .seq vb.toArray } } := ⟨_, _, rfl, fun b o e => Heap.get?_push_of_some _ e⟩
  have rr : RepL (s.heap.push { cls := .type "tuple", data := .seq vb.toArray }) (args ++ [.tup more]) (va ++ [.ref s.heap.objs.size]) := by
    refine repL_append (ra.keeps (kp_heap kp1)) ?_
    simp only [RepL, Rep]
    exact ⟨_, [], rfl, ⟨_, vb.toArray, rfl, ⟨0, Heap.get?_push_size _ rfl⟩, by simpa using rb.keeps (kp_heap kp1)⟩, rfl⟩
  refine wpAny_pure (wpAny_newFunctionEnv_cells hk (fun x hx => .inl (hkind x.1 (List.of_mem_zip hx).1)) fun env he s' C => ?_)
  subst he
  have X' := X.keeps (kp_heap kp1)
  refine ⟨(no_limit X').keeps C.toInCall.keep, codeAny_func ?_⟩
  obtain ⟨h', tk, rfl, hkp⟩ := C.done
  refine wpAny_mono (h _ _ _ (hA.deeper _) _ ⟨X', ⟨h', tk, rfl, hkp⟩, C.toInCall.fresh, ⟨_, C.toInCall.ns, ?_⟩, ⟨_, ⟨C.cell, C.apart, C.above⟩, fun x pv e => by cases e⟩, trivial⟩) (fun f s' x => ?_) fun _ _ x => x.elim
  · intro x pv e
    obtain ⟨v, h1, h2⟩ := bindL_of names _ _ _ (fun _ => .none) [] rr (fun x pv e => by cases e) hkind x pv e
    exact ⟨v, h1, h2.keeps hkp⟩
  · obtain ⟨v, rfl, r, k⟩ := x
    exact ⟨r, kp_trans kp1 k⟩
theorem g_fspath {P : Params} : nsFind (esMain P) (Str.ofString "fspath") = some (.ref 141) := by kernel_rfl
theorem g_get_sep {P : Params} : nsFind (esMain P) (Str.ofString "_get_sep") = some (.ref 155) := by kernel_rfl
noncomputable def pj (a b : List Nat) : List Nat := if (b.head? == some 47) || (a.length == 0) then b else if a.getLast? == some 47 then a ++ b else a ++ 47 :: b
set_option maxHeartbeats 4000000 in
theorem pc_join (w : World) (a b : List Nat) (ha : a.length + b.length ≤ 900) : PC w 3 162 [.str (S a), .str (S b)] (.str (S (pj a b))) := by
  have hd : (Mine.suf.o_164 w.params).data = .func _ := rfl
  refine PC.bodyV (args := [.str (S a)]) (more := [.str (S b)]) [Str.ofString "a", Str.ofString "p"] [(Str.ofString "p", .tup [.str (S b)]), (Str.ofString "a", .str (S a))] rfl (by kernel_rfl) hd (by kernel_rfl) rfl rfl (fun vs us h1 h2 => ?_) ?_ (by simp [sizeLine]) rfl rfl rfl (fun L => Stable.tt) fun A s L hA => ?_
  · obtain ⟨v, rfl⟩ := len1 h1; obtain ⟨u, rfl⟩ := len1 h2; rfl
  · decide +kernel
  have hA1 : Lv 1 A := hA.less (by decide)
  refine SX.assign (EV.fn (pc_fspath w (S a)) (fn_fspath w) hA1 (EV.glob FI.has g_fspath (by kernel_rfl) (by kernel_rfl) (by kernel_rfl) (by kernel_rfl)) (by walk_at "evs") FI.has) (by kernel_rfl) (by kernel_rfl) (by rfl) ?_
  refine SX.assign (EV.fn (pc_get_sep w (S a)) (fn_get_sep w) hA1 (EV.glob FI.has g_get_sep (by kernel_rfl) (by kernel_rfl) (by kernel_rfl) (by kernel_rfl)) (by walk_at "evs") FI.has) (by kernel_rfl) (by kernel_rfl) (by rfl) ?_
  refine SX.assign (pv := .str (S a)) (by walk_at "ev") (by kernel_rfl) (by kernel_rfl) (by rfl) ?_
  refine SX.try_ ?_
  refine SX.weak (m' := [(Str.ofString "path", .str (S a)), (Str.ofString "sep", .str (S [47])), (Str.ofString "p", .tup [.str (S b)])]) ?_ (fun p hp => ?_)
  rotate_left
  · simp only [List.mem_cons, List.not_mem_nil, or_false] at hp
    rcases hp with rfl | rfl | rfl <;> walk_at "lk"
  refine SX.for1 (items := [.str (S b)]) (fun i => [(Str.ofString "path", .str (S (if i = 0 then a else pj a b))), (Str.ofString "sep", .str (S [47])), (Str.ofString "p", .tup [.str (S b)])]) rfl (ItV.tup hA.1 ?_) (by simp [Flat]) (by kernel_rfl) (by kernel_rfl) (nd_of (by decide +kernel)) ?_ ?_ (fun x => rfl)
  · walk_at "ev"
  · intro i p Zb hzb hp
    have h0 : i = 0 ∧ p = .str (S b) := by
      match i, hp with
      | 0, hp => exact ⟨rfl, by simpa using hp.symm⟩
      | n + 1, hp => simp at hp
    obtain ⟨rfl, rfl⟩ := h0
    rw [if_pos rfl, if_neg (by decide)]
    refine SX.assign (EV.fn (pc_fspath w (S b)) (fn_fspath w) hA1 (EV.glob FI.has g_fspath (by kernel_rfl) (by kernel_rfl) (by kernel_rfl) (by kernel_rfl)) (by walk_at "evs") FI.has) (by kernel_rfl) (by kernel_rfl) (by rfl) ?_
    have hfin : ∀ (c : List Nat) (m : List (Str × PV)), c = pj a b → m.lookup (Str.ofString "path") = some (.str (S c)) → m.lookup (Str.ofString "sep") = some (.str (S [47])) → m.lookup (Str.ofString "p") = some (.tup [.str (S b)]) →
        ∀ q ∈ [(Str.ofString "path", PV.str (S (pj a b))), (Str.ofString "sep", .str (S [47])), (Str.ofString "p", .tup [.str (S b)])], m.lookup q.1 = some q.2 := fun c m e h1 h2 h3 q hq => by
      subst e
      simp only [List.mem_cons, List.not_mem_nil, or_false] at hq
      rcases hq with rfl | rfl | rfl <;> assumption
    refine SX.if_ (b := (b.head? == some 47) || ((!(a.length != 0)) || false)) (EB.or (starts_slash b ▸ EB.plain (EV.startswith (by walk_at "ev") (by walk_at "ev")) TrV.bool) fun h => EB.or (EB.not (EB.plain (a := .str (S a)) (by walk_at "ev") (TrV.strS (by omega)))) fun h => EB.or_nil) (fun h => ?_) (fun h => ?_)
    · refine SX.assign (pv := .str (S b)) (by walk_at "ev") (by kernel_rfl) (by kernel_rfl) (by rfl) (SX.nil fun s' F => wpAny_execs_nil ⟨rfl, F.weaken (hfin b _ (by
        unfold pj; rw [if_pos (by simpa using h)]) (by walk_at "lk") (by walk_at "lk") (by walk_at "lk"))⟩)
    · refine SX.if_ (b := a.getLast? == some 47) (ends_slash a ▸ EB.plain (EV.endswith (by walk_at "ev") (by walk_at "ev")) TrV.bool) (fun h2 => ?_) (fun h2 => ?_)
      · refine SX.aug (a := .str (S a)) (b := .str (S b)) (by walk_at "lk") (by walk_at "ev") (IOpV.add_S (by omega)) (by kernel_rfl) (by kernel_rfl) (SX.nil fun s' F => wpAny_execs_nil (wpAny_execs_nil ⟨rfl, F.weaken (hfin (a ++ b) _ (by
          unfold pj; rw [if_neg (by simpa using h), if_pos h2]) (by walk_at "lk") (by walk_at "lk") (by walk_at "lk"))⟩))
      · refine SX.aug (a := .str (S a)) (b := .str (S (47 :: b))) (by walk_at "lk") (EV.binop (a := .str (S [47])) (b := .str (S b)) (by walk_at "ev") (by walk_at "ev") (OpV.add_S (by simp; omega))) (IOpV.add_S (by simp; omega)) (by kernel_rfl) (by kernel_rfl) (SX.nil fun s' F => wpAny_execs_nil (wpAny_execs_nil ⟨rfl, F.weaken (hfin (a ++ 47 :: b) _ (by
          unfold pj; rw [if_neg (by simpa using h), if_neg (by simpa using h2)]) (by walk_at "lk") (by walk_at "lk") (by walk_at "lk"))⟩))
  · refine SX.then_nil (SX.ret (pv := .str (S (pj a b))) ?_ fun s' v F r => ⟨v, rfl, r, FIP.kp F⟩)
    refine EV.as (p := .str (S (if [PV.str (S b)].length = 0 then a else pj a b))) ?_ rfl
    walk_at "ev"
end
section
/-- the frame of a comprehension -/
structure CIP (w : World) (s0 : Shared) (env : Env) (m fm : List (Str × PV)) (s : Shared) : Prop where
  x : XAt w s0.heap
  kp : Keeps s0 s
  loc : ∃ mv, s.heap.Ns env.locals mv ∧ ∀ x pv, m.lookup x = some pv → ∃ v, mv x = some v ∧ Rep s.heap pv v
  cel : ∀ x pv, fm.lookup x = some pv → ∃ c v, env.cells.lookup x = some c ∧ s.heap.IsCell c (some v) ∧ Rep s.heap pv v
noncomputable def CI (w : World) (s0 : Shared) (env : Env) (m fm : List (Str × PV)) : Inv where
  P := CIP w s0 env m fm
  mono := fun s s' F k => by
    have kh := kp_heap k
    refine ⟨F.x, kp_trans F.kp k, ?_, fun x pv e => let ⟨c, v, a, b, r⟩ := F.cel x pv e; ⟨c, v, a, b.keeps kh, r.keeps kh⟩⟩
    obtain ⟨mv, n, r⟩ := F.loc
    exact ⟨mv, n.keeps kh, fun x pv e => let ⟨v, a, b⟩ := r x pv e; ⟨v, a, b.keeps kh⟩⟩
theorem CI.has {w : World} {s0 : Shared} {env : Env} {m fm : List (Str × PV)} : (CI w s0 env m fm).Has w := ⟨fun s F => (CIP.x F).keeps (kp_heap F.kp)⟩
section
variable {w : World} {A : Around} {env : Env} {s0 : Shared} {m fm : List (Str × PV)}
theorem EV.locK {x : Str} {pos : Pos} {pv : PV} (hx : m.lookup x = some pv) (hl : env.kindOf x = some .local) (hk : env.scope.kind = .function) (hd : (x == ("__debug__" : Str)) = false) :
    EV w A env (CI w s0 env m fm) (.Name x pos) pv := fun s F => by
  obtain ⟨mv, n, r⟩ := F.loc
  obtain ⟨v, hv, rv⟩ := r x pv hx
  exact wpAny_Name (wpAny_loadName_local hk hl n hv ⟨rv, kp_refl _⟩) hd
theorem EV.cellK {x : Str} {pos : Pos} {pv : PV} (hx : fm.lookup x = some pv) (hl : env.kindOf x = some .cell) (hk : env.scope.kind = .function) (hd : (x == ("__debug__" : Str)) = false) :
    EV w A env (CI w s0 env m fm) (.Name x pos) pv := fun s F => by
  obtain ⟨c, v, hc, hv, r⟩ := F.cel x pv hx
  exact wpAny_Name (wpAny_loadName_cell hk hl hc hv ⟨r, kp_refl _⟩) hd

theorem ints_nth : ∀ {ns : List Int} {vs : List Value}, IntsAre vs ns → True := fun _ => trivial

theorem paired_rep {h : Heap} {g : Int → PV} (hg : ∀ n, Flat (g n) = true) : ∀ {vs ys : List Value} (ns : List Int), Paired (fun (v y : Value) => ∃ n t h', v = Value.int n t ∧ Rep h' (g n) y) vs ys → (∀ (j : Nat) (v : Value), vs[j]? = some v → ∃ n t, ns[j]? = some n ∧ v = Value.int n t) → vs.length = ns.length → RepL h (ns.map g) ys
  | _, _, ns, .nil, _, hl => by
    cases ns with
    | nil => simp only [List.map_nil, RepL]
    | cons n ns => simp at hl
  | _, _, ns, .cons (a := a) (b := b) (l₁ := l₁) (l₂ := l₂) h1 hr, hv, hl => by
    cases ns with
    | nil => simp at hl
    | cons n ns =>
      obtain ⟨n', t', e1, e2⟩ := hv 0 a rfl
      simp at e1; subst e1; subst e2
      obtain ⟨n2, t2, h', e, r⟩ := h1
      cases e
      simp only [List.map_cons, RepL]
      exact ⟨b, l₂, rfl, r.flat (hg _), paired_rep hg ns hr (fun j v e => by simpa using hv (j + 1) v (by simpa using e)) (by simpa using hl)⟩

/-- a comprehension over ints, of plain values, with no test -/
theorem EV.compI {I : Inv} {elt iter : Expr} {x : Str} {px pos : Pos} {scope : Scope} {cl : List (Str × Addr)} {ns : List Int} {g : Int → PV} (hg : ∀ n, Flat (g n) = true) (fm : List (Str × PV)) (hit : ItV w A env I [] iter (ns.map .int)) (hI : I.Has w)
    (hfm : ∀ s, I.P s → ∀ x pv, fm.lookup x = some pv → ∃ c v, cl.lookup x = some c ∧ s.heap.IsCell c (some v) ∧ Rep s.heap pv v)
    (hclos : closureFor scope env = pure cl) (hcell : ∀ y ∈ scope.names, y.2 ≠ .cell) (hkind : scope.kind = .function)
    (hnames : ∀ y ∈ scope.names, y.2 = .local → scope.names.lookup y.1 = some .local) (hx : scope.names.lookup x = some .local)
    (hsz : ns.length ≤ sizeLine)
    (helt : ∀ s C n, n ∈ ns → EV w A (compEnvC scope cl C env) (CI w s (compEnvC scope cl C env) [(x, .int n)] fm) elt (g n))
    (hs : ∀ x, foldedSetIterable iter env x = pure x := by intro _; rfl) :
    EV w A env I (.ListComp elt [⟨.Name x px, iter, [], 0⟩] scope pos) (.plist (ns.map g)) := fun s F => by
  refine wpAny_ListComp_free (fun _ => true) (fun v y => ∃ n t h', v = .int n t ∧ Rep h' (g n) y) hclos hcell hkind hnames hx (hit s F _ _ fun s' it fp wr P St k ok => ?_) hs
  have hlen : (ns.map PV.int).length = ns.length := by simp
  have hval : ∀ i v, P i v → ∃ n t, ns[i]? = some n ∧ v = .int n t := fun i v hv => by
    obtain ⟨p, hp, rp⟩ := ok.vals i v hv
    rw [List.getElem?_map] at hp
    obtain ⟨n, hn, rfl⟩ := Option.map_eq_some_iff.mp hp
    simp only [Rep] at rp
    obtain ⟨t, rfl⟩ := rp
    exact ⟨n, t, hn, rfl⟩
  refine ⟨it, fp, wr, _, P, St, rfl, ok.walks, by rw [hlen]; exact hsz, ok.st, fun b hb => by obtain ⟨o, e, _⟩ := ok.ex 0 _ ok.st b hb; exact Heap.lt_size e, ⟨?_, ?_⟩, ?_⟩
  · intro C i v s₃ m₃ E' _ _ _ _ _ _
    exact wpAny_pure ⟨rfl, kp_refl _⟩
  · intro C i v s₃ m₃ E' hC hv _ hn hm hk _
    obtain ⟨n, t, hn', rfl⟩ := hval i v hv
    have hks : KpH s.heap s₃.heap := fun b o e => hk b o (fun hm => by rw [ok.free b hm] at e; cases e) (kp_heap k b o e)
    refine no_mono (helt { s₃ with heap := s.heap } C n (List.mem_of_getElem? hn') s₃ ⟨hI.x s F, ⟨s₃.heap, s₃.toks, rfl, hks⟩, ⟨m₃, hn, fun y pv e => ?_⟩, fun y pv e => ?_⟩) fun y s₄ z => ⟨⟨n, t, _, rfl, z.1⟩, z.2⟩
    · simp only [List.lookup_cons, List.lookup_nil] at e
      cases hb : y == x with
      | true => rw [hb] at e; cases e; exact ⟨_, by rw [eq_of_beq hb]; exact hm, rep_int⟩
      | false => rw [hb] at e; cases e
    · obtain ⟨c, v, h1, h2, h3⟩ := hfm s F y pv e
      exact ⟨c, v, h1, h2.keeps hks, h3.keeps hks⟩
  · intro D h' tk ys vs hD hl hpl hlen' hP hF hk
    have hks : Keeps s { s' with heap := h', toks := tk } := by
      obtain ⟨h2, tk2, rfl, k2⟩ := k
      exact ⟨h', tk, rfl, fun b o e => hk b o (fun hm => by rw [ok.free b hm] at e; cases e) (k2 b o e)⟩
    refine ⟨?_, hks⟩
    simp only [Rep]
    refine ⟨D, ys, rfl, hpl, ?_⟩
    have : vs.filter (fun _ => true) = vs := by simp
    rw [this] at hF
    exact paired_rep hg ns hF (fun j v e => hval j v (hP j v e)) (by rw [hlen', hlen])

theorem ItV.rangeN {I : Inv} {iter : Expr} (a : Int) (n : Nat) (hA : A.handled = none) (hfit : -1000 ≤ a ∧ a ≤ 1000 ∧ n ≤ 1000)
    (he : ∀ s, I.P s → ∀ (Q : Value → Shared → Prop) (E : Value → Shared → Prop), (∀ s' r t u v, Keeps s s' → IsRange s'.heap r a (a + n) 1 t u v → Q (.ref r) s') → wpAny (model PF w) A (eval iter env) Q E s) :
    ItV w A env I [] iter (((List.range n).map fun (i : Nat) => a + (i : Int)).map .int) := fun s F Q E hQ =>
  he s F _ _ fun s' r t u v k hr => by
    have hsz : Builtin.Range.rangeSize a (a + n) 1 = n := by
      unfold Builtin.Range.rangeSize
      rw [if_pos (by decide)]
      by_cases hn : (0 : Int) < n
      · rw [if_pos (by omega)]; omega
      · rw [if_neg (by omega)]; omega
    refine wpAny_pyIter_range hr ?_ (hQ _ s'.heap.objs.size [s'.heap.objs.size] [s'.heap.objs.size] (fun i v => i < n ∧ ∃ t, v = .int (a + i * 1) t) (fun i h => IsRangeIter h s'.heap.objs.size (a + (i : Nat) * 1) ((n : Int) - (i : Nat)) 1) (kp_trans k ⟨_, _, rfl, fun b o e => Heap.get?_push_of_some _ e⟩) (ItOk.mk ?_ ?_ ?_ ?_ ?_ ?_ (by simp)))
    · unfold Builtin.Range.small
      rw [hsz]
      unfold Builtin.Range.rangeFitsLong
      simp; omega
    · have W := Walks.range (prog := PF) (w := w) (A := A) hA s'.heap.objs.size a 1 n
      have e : (((List.range n).map fun (i : Nat) => a + (i : Int)).map PV.int).length = n := by simp
      rw [e]
      exact ⟨W.sub, W.frame, fun i s Q E hi st hq => W.item i s Q E hi st fun v h' tk hv => hq v h' tk ⟨hi, hv⟩, W.done, W.self⟩
    · rintro i v ⟨hi, t, rfl⟩
      refine ⟨.int (a + i), by simp [hi], ?_⟩
      rw [Int.mul_one]; exact rep_int
    · rw [hsz]
      have := Heap.get?_push_size s'.heap (o := { cls := .type "range_iterator", data := .fields #[rawInt a, rawInt n, rawInt 1] }) rfl
      simpa using this
    · intro b hb
      simp only [List.mem_singleton] at hb; subst hb
      cases hq : s.heap.get? s'.heap.objs.size with
      | none => rfl
      | some o' => exact absurd (Heap.lt_size (kp_heap k _ _ hq)) (Nat.lt_irrefl _)
    · intro i h e1 b hb
      simp only [List.mem_singleton] at hb; subst hb
      exact ⟨_, e1, (fun _ _ e => by cases e), (fun _ e => by cases e)⟩
    · intro i h e1 b hb o e vs n d
      simp only [List.mem_singleton] at hb; subst hb
      rw [e1] at e; cases e; cases d
theorem ev_range1 {I : Inv} {x : Str} {p pos : Pos} {e : Expr} {n : Int} (hn : EV w A env I (.Name x p) (.val (.type "range"))) (he : EV w A env I e (.int n))
    (h1 : eval (.Call (.Name x p) [e] [] pos) env = (do callWith pos (← eval (.Name x p) env) [] (backTo pos (starEach [e] env)) (backToKw pos (keywordEach [] env))) := by rfl)
    (h2 : starEach [e] env = (false, eval e env) :: starEach [] env := by rfl) :
    ∀ s, I.P s → ∀ (Q : Value → Shared → Prop) (E : Value → Shared → Prop), (∀ s' r t u v, Keeps s s' → IsRange s'.heap r 0 n 1 t u v → Q (.ref r) s') → wpAny (model PF w) A (eval (.Call (.Name x p) [e] [] pos) env) Q E s := fun s F Q E hQ =>
  Call_ (hn.use F fun v s' r k F' => by
    simp only [Rep] at r; subst r
    refine PyProof.Rows.callWith_type1 (args_cons (he.use F' fun v2 s2 r2 k2 F2 => args_nil ?_) h2) h2
    simp only [Rep] at r2; obtain ⟨t, rfl⟩ := r2
    exact call_range_1 (hQ _ _ _ _ _ (kp_trans k (kp_trans k2 ⟨_, _, rfl, fun b o e => Heap.get?_push_of_some _ e⟩)) (IsRange.new ..))) h1
theorem ev_range2 {I : Inv} {x : Str} {p pos : Pos} {e e' : Expr} {a n : Int} (hn : EV w A env I (.Name x p) (.val (.type "range"))) (he : EV w A env I e (.int a)) (he' : EV w A env I e' (.int n))
    (h1 : eval (.Call (.Name x p) [e, e'] [] pos) env = (do callWith pos (← eval (.Name x p) env) [] (backTo pos (starEach [e, e'] env)) (backToKw pos (keywordEach [] env))) := by rfl)
    (h2 : starEach [e, e'] env = (false, eval e env) :: starEach [e'] env := by rfl) (h3 : starEach [e'] env = (false, eval e' env) :: starEach [] env := by rfl) :
    ∀ s, I.P s → ∀ (Q : Value → Shared → Prop) (E : Value → Shared → Prop), (∀ s' r t u v, Keeps s s' → IsRange s'.heap r a n 1 t u v → Q (.ref r) s') → wpAny (model PF w) A (eval (.Call (.Name x p) [e, e'] [] pos) env) Q E s := fun s F Q E hQ =>
  Call_ (hn.use F fun v s' r k F' => by
    simp only [Rep] at r; subst r
    refine PyProof.Rows.callWith_type1 (args_cons (he.use F' fun v2 s2 r2 k2 F2 => args_cons (he'.use F2 fun v3 s3 r3 k3 F3 => args_nil ?_) h3) h2) h2 (by rw [h3]; rfl)
    simp only [Rep] at r2 r3; obtain ⟨t, rfl⟩ := r2; obtain ⟨u, rfl⟩ := r3
    exact call_range_2 (hQ _ _ _ _ _ (kp_trans k (kp_trans k2 (kp_trans k3 ⟨_, _, rfl, fun b o e => Heap.get?_push_of_some _ e⟩))) (IsRange.new ..))) h1
end
end
section
/-- as PC.body, for parameters that are cells -/
theorem PC.bodyC {w : World} {a : Addr} {o : Obj} {fd : FuncData} {body : List Stmt} {d : Nat} {args : List PV} {res : PV} (names : List Str) (ml : List (Str × PV)) (hml : (names.zip args).reverse ++ [] = ml) (ho : (KXF w.params).lookup a = some o) (hdata : o.data = .func fd) (hcd : codeIn (KXF w.params) fd.code fd.qualname = true)
    (hbody : fd.body = .stmts body) (hclo : fd.closure = []) (hbind : ∀ vs, vs.length = args.length → bindArgs fd ⟨vs, []⟩ = pure (names.zip vs)) (hkind : ∀ x ∈ names, fd.scope.names.lookup x = some .cell ∧ ∀ L, ((cellsFrom (L + 1) fd.scope.names []).lookup x).isSome = true)
    (hco : fd.scope.isCoroutine = false) (hgen : fd.scope.isGenerator = false) (hk : fd.scope.kind = .function) (hZ : ∀ L, Stable (callEnvC fd L a) fun _ => True)
    (h : ∀ A s L, Lv d A → SX w A (callEnvC fd L a) (FI w s (callEnvC fd L a) [] ml (fun _ => True) (hZ L)) body (fun f s' => ∃ v, f = .ret v ∧ Rep s'.heap res v ∧ Keeps s s')) : PC w (d + 1) a args res := by
  subst hml
  intro A s vs hA X hr
  refine wpAny_call (codeAny_call_cells hA.room (X.1 _ _ ho) hdata (no_limit X) (codeRec_of X.1 hcd) hbody (hbind vs (repL_len hr)) hclo (fun x hx => .inr ⟨(hkind x.1 (List.of_mem_zip hx).1).1, (hkind x.1 (List.of_mem_zip hx).1).2 _⟩) (fun s₁ C => ?_) hco hgen hk)
  obtain ⟨h', tk, rfl, hkp⟩ := C.done
  refine wpAny_mono (h _ s _ (hA.deeper _) _ ⟨X, ⟨h', tk, rfl, hkp⟩, C.toInCall.fresh, ⟨_, C.toInCall.ns, fun x pv e => by cases e⟩, ⟨_, ⟨C.cell, C.apart, C.above⟩, ?_⟩, trivial⟩) (fun f s' x => ?_) fun _ _ x => x.elim
  · intro x pv e
    obtain ⟨v, h1, h2⟩ := bindC_of (k := (callEnvC fd s.heap.objs.size a).kindOf) names vs args s.heap (fun _ => .none) [] hr (fun x pv e => by cases e) (fun x hx e => by have := (hkind x hx).1; rw [show (callEnvC fd s.heap.objs.size a).kindOf x = fd.scope.names.lookup x from rfl, this] at e; cases e) x pv e
    exact ⟨v, h1, h2.keeps hkp⟩
  · obtain ⟨v, rfl, r, k⟩ := x
    exact ⟨r, k⟩
section
variable {w : World} {A : Around} {env : Env} {I : Inv}
/-- a method of a built-in class -/
theorem EV.meth1 {o e : Expr} {name : Str} {apos pos : Pos} {T id : String} {a b res : PV} (ho : EV w A env I o a) (he : EV w A env I e b) (hT : ∀ (s : Shared) (v : Value), Rep s.heap a v → s.TypeIs v T ∧ ∀ x, v = .ref x → ∃ ob, s.heap.get? x = some ob ∧ ob.dict = Option.none)
    (pa : PlainAttrs T) (slot : Slot T name id) (ty : typeOf (.builtin id) = pure (.type "method_descriptor")) (hc : CallV w A id [a, b] res)
    (hbase : attributeBase o name env (eval o env) = eval o env := by rfl) (hs : starEach [e] env = [(false, eval e env)] := by rfl) (hline : (apos.endLine == pos.line) = true := by rfl) :
    EV w A env I (.Call (.Attribute o name apos) [e] [] pos) res := fun s F =>
  Call_method1 hbase hs hline (ho.use F fun v s' r k F' => by
    obtain ⟨h1, h2⟩ := hT s' v r
    refine ⟨T, id, pa, slot, ty, h1, h2, Calls.callWith_builtin rfl (Calls.evalArgs_plain (Calls.spliced_cons (he.use F' fun v2 s2 r2 k2 F2 => Calls.spliced_nil ?_)))⟩
    exact (hc s2 [v, v2] (by simp only [RepL]; exact ⟨v, [v2], rfl, r.keeps (kp_heap k2), v2, [], rfl, r2, rfl⟩)).after (kp_trans k k2))
theorem str_type {x : Str} (s : Shared) (v : Value) (r : Rep s.heap (.str x) v) : s.TypeIs v "str" ∧ ∀ a, v = .ref a → ∃ ob, s.heap.get? a = some ob ∧ ob.dict = Option.none := by
  simp only [Rep] at r; obtain ⟨t, rfl⟩ := r
  exact ⟨typeIs_str _ _ _, fun a e => by cases e⟩
theorem list_type {l : List PV} (s : Shared) (v : Value) (r : Rep s.heap (.plist l) v) : s.TypeIs v "list" ∧ ∀ a, v = .ref a → ∃ ob, s.heap.get? a = some ob ∧ ob.dict = Option.none := by
  simp only [Rep] at r; obtain ⟨a, vs, rfl, ⟨n, h⟩, _⟩ := r
  exact ⟨⟨_, h, rfl⟩, fun b e => by cases e; exact ⟨_, h, rfl⟩⟩
theorem CallV.join {x : Str} {ys : List Str} (hok : (ys.map (·.length)).sum + ys.length * x.length ≤ 16777216) : CallV w A "str.join" [.str x, .list (ys.map .str)] (.str (Txt.join x ys)) := fun s vs r => by
  simp only [RepL, Rep] at r
  obtain ⟨v, vs', rfl, ⟨t, rfl⟩, v2, vs2, rfl, ⟨a, us, rfl, hl, hr⟩, rfl⟩ := r
  exact join_list hl (repL_strs ys hr) hok fun t' k => ⟨rep_str, kp_toks _ _⟩
theorem EV.join {o e : Expr} {apos pos : Pos} {x : Str} {ys : List Str} (ho : EV w A env I o (.str x)) (he : EV w A env I e (.list (ys.map .str))) (hok : (ys.map (·.length)).sum + ys.length * x.length ≤ 16777216)
    (hbase : attributeBase o (Str.ofString "join") env (eval o env) = eval o env := by rfl) (hs : starEach [e] env = [(false, eval e env)] := by rfl) (hline : (apos.endLine == pos.line) = true := by rfl) :
    EV w A env I (.Call (.Attribute o (Str.ofString "join") apos) [e] [] pos) (.str (Txt.join x ys)) :=
  EV.meth1 ho he str_type F.plainAttrs_str F.slot_str_join F.type_str_join (CallV.join hok) hbase hs hline
end
theorem join_S : ∀ ls : List (List Nat), Txt.join (S []) (ls.map S) = S ls.flatten := by
  intro ls
  unfold Txt.join
  rw [StrLaws.glued_eq_join]
  induction ls with
  | nil => rfl
  | cons x r ih =>
    cases r with
    | nil => show S x = S (x ++ []); rw [List.append_nil]
    | cons y r =>
      show S x ++ S [] ++ Str.join (S []) ((y :: r).map S) = _
      rw [ih, S_append, S_append, List.append_nil]; rfl
noncomputable def hexL : List Nat := [48, 49, 50, 51, 52, 53, 54, 55, 56, 57, 97, 98, 99, 100, 101, 102]
noncomputable def hexc (d : Nat) : Nat := hexL.getD d 48
noncomputable def hexs (m : Nat) : List Nat := [hexc (m / 4096 % 16), hexc (m / 256 % 16), hexc (m / 16 % 16), hexc (m % 16)]
theorem hex_at (n : Nat) (h : n < 16) : (Str.ofString "0123456789abcdef").cps[n]? = some (hexc n) := by
  have : ∀ n < 16, (Str.ofString "0123456789abcdef").cps[n]? = some (hexc n) := by decide +kernel
  exact this n h
theorem b_range {P : Params} : nsFind (esMain P) (Str.ofString "range") = none ∧ nsFind (esBui P) (Str.ofString "range") = some (.type "range") := ⟨by kernel_rfl, by kernel_rfl⟩
set_option maxHeartbeats 4000000 in
theorem pc_law_figures (w : World) (m : Nat) (hm : m < 65536) : PC w 1 224 [.int (m : Int)] (.str (S (hexs m))) := by
  have hd : (Mine.suf.o_229 w.params).data = .func _ := rfl
  refine PC.bodyC [Str.ofString "mode"] [(Str.ofString "mode", .int m)] rfl (by kernel_rfl) hd (by kernel_rfl) rfl rfl (fun vs h => ?_) ?_ rfl rfl rfl (fun L => Stable.tt) fun A s L hA => ?_
  · obtain ⟨v, rfl⟩ := len1 h; rfl
  · intro x hx
    simp only [List.mem_singleton] at hx; subst hx
    exact ⟨by kernel_rfl, fun L => by kernel_rfl⟩
  refine SX.ret (pv := .str (S (hexs m))) ?_ fun s' v F r => ⟨v, rfl, r, FIP.kp F⟩
  refine EV.as (EV.join (x := S []) (ys := [S [hexc (m / 4096 % 16)], S [hexc (m / 256 % 16)], S [hexc (m / 16 % 16)], S [hexc (m % 16)]]) (EV.strS (by decide +kernel)) (EV.weak (EV.as (EV.compI (ns := (List.range 4).map fun (i : Nat) => 0 + (i : Int)) (g := fun n => .str (S [hexc (m / 16 ^ (3 - n.toNat) % 16)])) (fun n => rfl) [(Str.ofString "mode", .int m)] (ItV.rangeN 0 4 hA.1 (by decide) (ev_range1 (EV.bui FI.has b_range.1 b_range.2 (by kernel_rfl) (by kernel_rfl) (by kernel_rfl) (by kernel_rfl) (by kernel_rfl)) (EV.as EV.int (congrArg PV.int (by decide))))) FI.has ?h1 rfl (by decide +kernel) rfl (by decide +kernel) (by kernel_rfl) (by simp [sizeLine]) ?h2) ?h3)) ?h4) ?h5
  case h1 =>
    intro s' F x pv e
    obtain ⟨cv, X, r⟩ := FIP.cel F
    obtain ⟨v, hv, rv⟩ := r x pv e
    simp only [List.lookup_cons, List.lookup_nil] at e
    cases hb : x == Str.ofString "mode" with
    | false => rw [hb] at e; cases e
    | true =>
      rw [eq_of_beq hb] at hv ⊢
      exact ⟨L + 1, v, by kernel_rfl, hv ▸ X.cell _ _ (by kernel_rfl), rv⟩
  case h2 =>
    intro s' C n hn
    obtain ⟨i, hi, rfl⟩ := List.mem_map.mp hn
    have hi4 : i < 4 := List.mem_range.mp hi
    refine EV.sub (a := .str (Str.ofString "0123456789abcdef")) (i := .int ((m / 16 ^ (3 - i) % 16 : Nat) : Int)) EV.str ?_ (by
      have e : (0 + (i : Int)).toNat = i := by omega
      rw [e]
      exact SubV.str (hex_at _ (Nat.mod_lt _ (by decide))) (Nat.lt_of_lt_of_le (Nat.mod_lt _ (by decide)) (by decide)) (fun t u => by with_unfolding_all rfl) (fun t r => by with_unfolding_all rfl))
    have hi' : i = 0 ∨ i = 1 ∨ i = 2 ∨ i = 3 := by omega
    refine EV.as (p := .int (((m : Int).fdiv (16 ^ ((3 : Int) - (0 + (i : Int))).toNat)).fmod 16)) (EV.binop (EV.binop (EV.cellK at_here (by kernel_rfl) (by kernel_rfl) (by kernel_rfl)) (EV.binop EV.int (EV.binop EV.int (EV.locK at_here (by kernel_rfl) (by kernel_rfl) (by kernel_rfl)) OpV.sub_int) (OpV.pow_int (by decide +kernel) (by omega) (by omega))) (OpV.div_int ?_ ?_)) EV.int (OpV.mod_int (by decide))) ?_
    · rcases hi' with rfl | rfl | rfl | rfl <;> decide +kernel
    · rcases hi' with rfl | rfl | rfl | rfl <;> decide +kernel
    · rcases hi' with rfl | rfl | rfl | rfl
      · exact congrArg PV.int ((congrArg (fun x => Int.fmod x 16) (fdiv_nat m 4096)).trans (fmod_nat _ 16))
      · exact congrArg PV.int ((congrArg (fun x => Int.fmod x 16) (fdiv_nat m 256)).trans (fmod_nat _ 16))
      · exact congrArg PV.int ((congrArg (fun x => Int.fmod x 16) (fdiv_nat m 16)).trans (fmod_nat _ 16))
      · exact congrArg PV.int ((congrArg (fun x => Int.fmod x 16) (fdiv_nat m 1)).trans (fmod_nat _ 16))
  case h3 => simp [show List.range 4 = [0, 1, 2, 3] from rfl]
  case h4 => simp [S, Str.length]
  case h5 => exact congrArg PV.str (join_S [[hexc (m / 4096 % 16)], [hexc (m / 256 % 16)], [hexc (m / 16 % 16)], [hexc (m % 16)]])
end
section
theorem repL_places {h : Heap} {l : List PV} {vs : List Value} (r : RepL h l vs) : ∀ js : List Nat, RepL h (js.filterMap (l[·]?)) (js.filterMap (vs[·]?))
  | [] => by simp only [List.filterMap_nil, RepL]
  | j :: js => by
    have ih := repL_places r js
    cases hl : l[j]? with
    | some p =>
      obtain ⟨v, hv, rv⟩ := repL_get r j p hl
      simp only [List.filterMap_cons, hl, hv, RepL]
      exact ⟨v, _, rfl, rv, ih⟩
    | none =>
      have hv : vs[j]? = none := by
        rw [List.getElem?_eq_none_iff] at hl ⊢
        rw [repL_len r]; exact hl
      simp only [List.filterMap_cons, hl, hv]
      exact ih
theorem fm_congr {α β : Type} {f g : α → Option β} : ∀ (l : List α), (∀ x ∈ l, f x = g x) → l.filterMap f = l.filterMap g
  | [], _ => rfl
  | x :: l, h => by simp only [List.filterMap_cons, h x (.head _), fm_congr l fun y hy => h y (.tail _ hy)]
theorem rev_aux {α : Type} : ∀ (n : Nat) (l : List α), l.length = n → ((List.range n).map fun i => n - 1 - i).filterMap (l[·]?) = l.reverse
  | 0, l, h => by
    have : l = [] := List.eq_nil_of_length_eq_zero h
    subst this; rfl
  | n + 1, l, h => by
    rcases List.eq_nil_or_concat l with rfl | ⟨l', a, rfl⟩
    · simp at h
    · have h' : l'.length = n := by simpa using h
      rw [List.concat_eq_append, List.range_succ_eq_map, List.map_cons, List.map_map, List.filterMap_cons]
      have e0 : (l' ++ [a])[n + 1 - 1 - 0]? = some a := by simp [← h']
      rw [e0, List.reverse_append]
      show a :: _ = a :: l'.reverse
      congr 1
      rw [← rev_aux n l' h', List.filterMap_map, List.filterMap_map]
      refine fm_congr _ fun i hi => ?_
      have hi' := List.mem_range.mp hi
      show (l' ++ [a])[n + 1 - 1 - (i + 1)]? = l'[n - 1 - i]?
      rw [List.getElem?_append_left (by omega), show n + 1 - 1 - (i + 1) = n - 1 - i by omega]
theorem rev_places {α : Type} (l : List α) : ((sliceRange ((l.length : Int) - 1) (-1) (-1)).filterMap (l[·]?)) = l.reverse := by
  have h : sliceRange ((l.length : Int) - 1) (-1) (-1) = (List.range l.length).map fun i => l.length - 1 - i := by
    unfold sliceRange
    rw [if_neg (by decide)]
    by_cases hl : (0 : Nat) < l.length
    · rw [if_pos (by omega)]
      have e : (((l.length : Int) - 1 - -1 - -1 - 1) / (- -1)).toNat = l.length := by
        rw [show (- -1 : Int) = 1 by decide, Int.ediv_one]; omega
      dsimp only
      rw [e]
      refine List.map_congr_left fun i hi => ?_
      have := List.mem_range.mp hi
      omega
    · have : l.length = 0 := by omega
      simp [this]
  rw [h]
  exact rev_aux l.length l rfl
section
variable {w : World} {A : Around} {env : Env} {I : Inv}
/-- as EV, and what is given is a new object -/
noncomputable def EVN (w : World) (A : Around) (env : Env) (I : Inv) (e : Expr) (pv : PV) : Prop := ∀ s, I.P s → wpAny (model PF w) A (eval e env) (fun v s' => (Rep s'.heap pv v ∧ Keeps s s') ∧ ∀ a, v = .ref a → s.heap.get? a = Option.none) No s
theorem EVN.ev {e : Expr} {pv : PV} (h : EVN w A env I e pv) : EV w A env I e pv := fun s F => no_mono (h s F) fun v s' x => x.1
theorem EVN.rev {value : Expr} {p1 p2 p3 p4 : Pos} {l : List PV} (hv : EV w A env I value (.list l)) (hA : Lv 1 A) (hsz : l.length ≤ sizeLine)
    (ht : ∀ o r, letTemporaryGo value o r = pure () := by intro _ _; rfl) :
    EVN w A env I (.Subscript value (.Slice Option.none Option.none (some (.UnaryOp .USub (.Constant (.int 1) 0 p1) p2)) p3) p4) (.plist l.reverse) := fun s F => by
  refine wpAny_Subscript_Slice_step slot_list_getitem.lookup (hv.use F fun v s₁ r k F₁ => ?_) ht
  simp only [Rep] at r
  obtain ⟨a, us, rfl, hl, rr⟩ := r
  refine wpAny_Slice (wpAny_pure (wpAny_pure ?_))
  refine UnaryOp_ (wpAny_Constant_int (neg_int ?_))
  have hk1 : Keeps s₁ { s₁ with heap := s₁.heap.push { cls := .type "slice", data := .fields #[.none, .none, .int (-1) (s₁.toks + 1)] }, toks := s₁.toks + 1 + 1 } := ⟨_, _, rfl, fun b o e => Heap.get?_push_of_some _ e⟩
  have hl1 := hl.push { cls := .type "slice", data := .fields #[.none, .none, .int (-1) (s₁.toks + 1)] }
  have hlen : us.size = l.length := by simpa using repL_len rr
  refine ⟨Heap.IsList.typeIs (s := { s₁ with heap := _, toks := _ }) hl1, ?_⟩
  refine wpAny_getItem_list_slice hl1 (Heap.IsSliceOf.new ..) .none .none (.int (-1) _) (by simp) ⟨⟨?_, kp_trans k (kp_trans hk1 ⟨_, _, rfl, fun b o e => Heap.get?_push_of_some _ e⟩)⟩, fun b hb => ?_⟩ (by rw [hlen]; exact hsz)
  rotate_left
  · cases hb
    cases hq : s.heap.get? (s₁.heap.push { cls := .type "slice", data := .fields #[.none, .none, .int (-1) (s₁.toks + 1)] }).objs.size with
    | none => rfl
    | some o => exact absurd (Heap.lt_size (Heap.get?_push_of_some _ (kp_heap k _ _ hq))) (Nat.lt_irrefl _)
  simp only [Rep]
  refine ⟨_, _, rfl, ⟨0, Heap.get?_push_size _ rfl⟩, ?_⟩
  have e : (slicePick us Option.none Option.none (some (-1))).toList = us.toList.reverse := by
    unfold slicePick
    have := rev_places us.toList
    simpa [sliceBounds] using this
  rw [e, ← rev_places l]
  have h2 := rev_places us.toList
  rw [← h2]
  have e3 : us.toList.length = l.length := by simpa using hlen
  rw [e3]
  exact repL_places (rr.keeps (fun b o e => Heap.get?_push_of_some _ (Heap.get?_push_of_some _ e))) _
end
end
section
/-- a list of plain data at a place -/
noncomputable def LAt (a : Addr) (l : List PV) (h : Heap) : Prop := ∃ us, h.IsList a us ∧ ∀ g, RepL g l us.toList
/-- an owned list of plain data -/
noncomputable def Own1 (d : Addr) (l : List PV) (h : Heap) : Prop := ∃ us, h.PlainList d us ∧ ∀ g, RepL g l us.toList
theorem repL_flat {h : Heap} : ∀ {l : List PV} {vs : List Value}, (∀ p ∈ l, Flat p = true) → RepL h l vs → ∀ g, RepL g l vs
  | [], _, _, r, g => by simpa only [RepL] using r
  | p :: ps, _, hf, r, g => by
    simp only [RepL] at r ⊢
    obtain ⟨v, vs', e, r1, r2⟩ := r
    exact ⟨v, vs', e, r1.flat (hf p (.head _)), repL_flat (fun q hq => hf q (.tail _ hq)) r2 g⟩
theorem LAt.off {env : Env} {ds : List Addr} {a : Addr} {l : List PV} (h1 : ¬ Own env a) (h2 : a ∉ ds) : Off env ds (LAt a l) :=
  ⟨[a], fun b hb => by simp only [List.mem_singleton] at hb; subst hb; exact ⟨h1, h2⟩, fun h ⟨us, ⟨o, e, _⟩, _⟩ b hb => by simp only [List.mem_singleton] at hb; subst hb; exact ⟨o, e⟩,
    fun h h' ⟨us, ⟨o, e, r⟩, q⟩ k => ⟨us, ⟨o, (k a (by simp)).trans e, r⟩, q⟩⟩
theorem Own1.off {env : Env} {d : Addr} {l : List PV} (h1 : ¬ Own env d) : Off env [] (Own1 d l) :=
  ⟨[d], fun b hb => by simp only [List.mem_singleton] at hb; subst hb; exact ⟨h1, by simp⟩, fun h ⟨us, ⟨n, e⟩, _⟩ b hb => by simp only [List.mem_singleton] at hb; subst hb; exact ⟨_, e⟩,
    fun h h' ⟨us, ⟨n, e⟩, q⟩ k => ⟨us, ⟨n, (k d (by simp)).trans e⟩, q⟩⟩
section
variable {w : World} {A : Around} {env : Env} {s0 : Shared} {m cm : List (Str × PV)} {Z : Heap → Prop} {hz : Stable env Z} {R : Flow → Shared → Prop} {ss : List Stmt}

theorem own_dict {env : Env} {m cm : List (Str × PV)} {Z : Heap → Prop} {s : Shared} (F : FIP w s0 env m cm Z s) (hnd : (env.cells.map (·.1)).Nodup) {b : Addr} (hb : s.heap.get? b = none) : ¬ Own env b := by
  rintro (rfl | ⟨n, hn⟩)
  · obtain ⟨mv, ⟨o', es, ep, e, d, _⟩, _⟩ := F.loc
    rw [hb] at e; cases e
  · obtain ⟨cv, X, _⟩ := F.cel
    obtain ⟨o', e, d⟩ := X.cell n b (lookup_of_mem_nodup hnd hn)
    rw [hb] at e; cases e

/-- a list local becomes a place with a fact -/
theorem SX.freeze {x : Str} {l : List PV} (hx : m.lookup x = some (.list l)) (hf : ∀ p ∈ l, Flat p = true) (hnd : (env.cells.map (·.1)).Nodup)
    (h : ∀ a (hz' : Stable env fun h => Z h ∧ LAt a l h), ¬ Own env a → SX w A env (FI w s0 env ((x, .val (.ref a)) :: m) cm (fun h => Z h ∧ LAt a l h) hz') ss R) :
    SX w A env (FI w s0 env m cm Z hz) ss R := fun s F => by
  obtain ⟨mv, n, r⟩ := FIP.loc F
  obtain ⟨v, hv, rv⟩ := r x _ hx
  simp only [Rep] at rv
  obtain ⟨a, us, rfl, hl, rr⟩ := rv
  obtain ⟨o, ho, hc, k, hd⟩ := id hl
  have hno : ¬ Own env a := own_get F ho ⟨(fun _ _ e => by rw [hd] at e; cases e), (fun _ e => by rw [hd] at e; cases e)⟩ hnd
  refine h a (hz.and (LAt.off hno (by simp))) hno s ⟨FIP.x F, FIP.kp F, FIP.up F, ⟨mv, n, fun y pv e => ?_⟩, FIP.cel F, FIP.z F, us, hl, repL_flat hf rr⟩
  simp only [List.lookup_cons] at e
  cases hb : y == x with
  | true => rw [hb] at e; cases e; exact ⟨_, by rw [eq_of_beq hb]; exact hv, by simp only [Rep]⟩
  | false => rw [hb] at e; exact r y pv e

theorem EV.locZ {x : Str} {pos : Pos} {a : Addr} {l : List PV} (hx : m.lookup x = some (.val (.ref a))) (hZ : ∀ h, Z h → LAt a l h) (hl : env.kindOf x = some .local) (hk : env.scope.kind = .function) (hd : (x == ("__debug__" : Str)) = false) :
    EV w A env (FI w s0 env m cm Z hz) (.Name x pos) (.list l) := fun s F => by
  obtain ⟨mv, n, r⟩ := FIP.loc F
  obtain ⟨v, hv, rv⟩ := r x _ hx
  simp only [Rep] at rv; subst rv
  refine wpAny_Name (wpAny_loadName_local hk hl n hv ⟨?_, kp_refl _⟩) hd
  obtain ⟨us, h1, h2⟩ := hZ _ (FIP.z F)
  simp only [Rep]
  exact ⟨a, us, rfl, h1, h2 _⟩
theorem EV.locO {x : Str} {pos : Pos} {a : Addr} {l : List PV} (hx : m.lookup x = some (.val (.ref a))) (hZ : ∀ h, Z h → Own1 a l h) (hl : env.kindOf x = some .local) (hk : env.scope.kind = .function) (hd : (x == ("__debug__" : Str)) = false) :
    EV w A env (FI w s0 env m cm Z hz) (.Name x pos) (.plist l) := fun s F => by
  obtain ⟨mv, n, r⟩ := FIP.loc F
  obtain ⟨v, hv, rv⟩ := r x _ hx
  simp only [Rep] at rv; subst rv
  refine wpAny_Name (wpAny_loadName_local hk hl n hv ⟨?_, kp_refl _⟩) hd
  obtain ⟨us, h1, h2⟩ := hZ _ (FIP.z F)
  simp only [Rep]
  exact ⟨a, us, rfl, h1, h2 _⟩

/-- x = [] makes an owned list -/
theorem SX.newlist {x : Str} {p q pos : Pos} (hl : env.kindOf x = some .local) (hk : env.scope.kind = .function) (hs : swapsWith (.List [] q) (some (.Name x p)) pos.line env = pure false) (hnd : (env.cells.map (·.1)).Nodup)
    (h : ∀ d (hz' : Stable env fun h => Z h ∧ Own1 d [] h), ¬ Own env d → Off env [d] Z → s0.heap.get? d = Option.none → SX w A env (FI w s0 env ((x, .val (.ref d)) :: m) cm (fun h => Z h ∧ Own1 d [] h) hz') ss R) :
    SX w A env (FI w s0 env m cm Z hz) (.Assign [.Name x p] (.List [] q) pos :: ss) R := fun s F => by
  refine wpAny_execs_cons (wpAny_Assign_Name (List_ (args_nil (wpAny_newObj_type ?_ (Nat.zero_le _)))) hs)
  have kp : Keeps s { s with heap := s.heap.push { cls := .type "list", data := .seq [].toArray } } := ⟨_, _, rfl, fun b o e => Heap.get?_push_of_some _ e⟩
  have F' := (FI w s0 env m cm Z hz).mono _ _ F kp
  have hfree : s.heap.get? s.heap.objs.size = none := by
    cases hq : s.heap.get? s.heap.objs.size with
    | none => rfl
    | some o => exact absurd (Heap.lt_size hq) (Nat.lt_irrefl _)
  have hfree0 : s0.heap.get? s.heap.objs.size = none := by
    cases hq : s0.heap.get? s.heap.objs.size with
    | none => rfl
    | some o => have := kp_heap (FIP.kp F) _ _ hq; rw [hfree] at this; cases this
  have hno : ¬ Own env s.heap.objs.size := own_dict F hnd hfree
  have hof : Off env [s.heap.objs.size] Z := by
    obtain ⟨f, a1, a2, a3⟩ := hz
    refine ⟨f, fun b hb => ⟨(a1 b hb).1, fun hm => ?_⟩, a2, a3⟩
    simp only [List.mem_singleton] at hm; subst hm
    obtain ⟨o, e⟩ := a2 _ (FIP.z F) _ hb
    rw [hfree] at e; cases e
  have hO : Own1 s.heap.objs.size [] (s.heap.push { cls := .type "list", data := .seq [].toArray }) := ⟨#[], ⟨0, Heap.get?_push_size _ rfl⟩, fun g => by show RepL g [] []; simp only [RepL]⟩
  have hz' : Stable env fun h => Z h ∧ Own1 s.heap.objs.size [] h := hz.and (Own1.off hno)
  have hr0 : Rep (s.heap.push { cls := .type "list", data := .seq [].toArray }) (.val (.ref s.heap.objs.size)) (.ref s.heap.objs.size) := by simp only [Rep]
  refine SX.store (pv := .val (.ref s.heap.objs.size)) (FIP.restab (Y := fun h => Z h ∧ Own1 s.heap.objs.size [] h) F' ⟨FIP.z F', hO⟩) hz' hr0 hl hk fun s'' F'' _ => h _ hz' hno hof hfree0 s'' F''

/-- x.append(e) on an owned list -/
theorem SX.append {Zx : Heap → Prop} {d : Addr} {l : List PV} {x : Str} {e : Expr} {p : PV} {xp apos cpos pos : Pos} {hz : Stable env fun h => Zx h ∧ Own1 d l h} (hx : m.lookup x = some (.val (.ref d))) (hno : ¬ Own env d) (hof : Off env [d] Zx) (hd0 : s0.heap.get? d = none)
    (hfm : ∀ q ∈ m, Flat q.2 = true) (hfc : ∀ q ∈ cm, Flat q.2 = true) (hfp : Flat p = true)
    (he : EV w A env (FI w s0 env m cm (fun h => Zx h ∧ Own1 d l h) hz) e p) (hsz : l.length ≤ 1000)
    (hl : env.kindOf x = some .local) (hk : env.scope.kind = .function) (hd : (x == ("__debug__" : Str)) = false) (hnd : (env.cells.map (·.1)).Nodup)
    (h : ∀ hz', SX w A env (FI w s0 env m cm (fun h => Zx h ∧ Own1 d (l ++ [p]) h) hz') ss R)
    (hbase : attributeBase (.Name x xp) (Str.ofString "append") env (eval (.Name x xp) env) = eval (.Name x xp) env := by rfl) (hs : starEach [e] env = [(false, eval e env)] := by rfl) (hline : (apos.endLine == cpos.line) = true := by rfl)
    (hi : interactive env = false := by rfl) (hsw : swapsWith (.Call (.Attribute (.Name x xp) (Str.ofString "append") apos) [e] [] cpos) none pos.line env = pure false := by rfl) :
    SX w A env (FI w s0 env m cm (fun h => Zx h ∧ Own1 d l h) hz) (.Expr (.Call (.Attribute (.Name x xp) (Str.ofString "append") apos) [e] [] cpos) pos :: ss) R := fun s F => by
  refine wpAny_execs_cons (wpAny_Expr (Call_method1 hbase hs hline ?_) hi hsw)
  have ho : EV w A env (FI w s0 env m cm (fun h => Zx h ∧ Own1 d l h) hz) (.Name x xp) (.val (.ref d)) := EV.loc hx hl hk hd
  refine ho.use F fun v s' r k F' => ?_
  simp only [Rep] at r; subst r
  obtain ⟨us, ⟨n, hpl⟩, hr⟩ := (FIP.z F').2
  refine ⟨"list", "list.append", PySem.F.plainAttrs_list, slot_list_append, PySem.F.type_list_append, ⟨_, hpl, rfl⟩, fun a e => by cases e; exact ⟨_, hpl, rfl⟩, Calls.callWith_builtin rfl (Calls.evalArgs_plain (Calls.spliced_cons (he.use F' fun v2 s2 r2 k2 F2 => Calls.spliced_nil ?_)))⟩
  obtain ⟨us, hpl, hr⟩ := (FIP.z F2).2
  have hlen : us.size = l.length := by simpa using repL_len (hr s2.heap)
  refine wpAny_list_append_plain hpl (fun h' hpl' hsb => ?_) (by show us.size ≤ 16777216; omega)
  have F3 : FIP w s0 env m cm (fun h => Zx h ∧ Own1 d (l ++ [p]) h) { s2 with heap := h' } := by
    refine ⟨FIP.x F2, ?_, FIP.up F2, ?_, ?_, hof.but (FIP.z F2).1 (.inr (by simp)) hsb, us.push v2, hpl', fun g => ?_⟩
    · obtain ⟨hh, tk, e, kk⟩ := FIP.kp F2
      subst e
      refine ⟨h', tk, rfl, fun b o e => (hsb.2 b fun q => ?_).trans (kk b o e)⟩
      subst q; rw [hd0] at e; cases e
    · obtain ⟨mv, nn, rr⟩ := FIP.loc F2
      exact ⟨mv, nn.sameBut hsb fun e => hno (.inl e.symm), fun y pv e => let ⟨u, a, b⟩ := rr y pv e; ⟨u, a, b.flat (hfm _ (mem_of_lookup e))⟩⟩
    · obtain ⟨cv, X, rr⟩ := FIP.cel F2
      exact ⟨cv, ⟨fun nm c e => (X.cell nm c e).sameBut hsb fun q => hno (.inr ⟨nm, q ▸ mem_of_lookup e⟩), X.apart, X.above⟩, fun y pv e => let ⟨u, a, b⟩ := rr y pv e; ⟨u, a, b.flat (hfc _ (mem_of_lookup e))⟩⟩
    · rw [Array.toList_push]
      refine repL_append (hr g) ?_
      simp only [RepL]
      exact ⟨v2, [], rfl, r2.flat hfp, rfl⟩
  exact h ((hof.less (by simp)).and (Own1.off hno)) _ F3
theorem ItV.listN {I : Inv} {iter : Expr} {items : List PV} {ds : List Addr} (hA : A.handled = none) (he : EVN w A env I iter (.plist items)) (hds : ∀ s, I.P s → ∀ d ∈ ds, ∃ o, s.heap.get? d = some o) : ItV w A env I ds iter items := fun s F Q E hQ =>
  no_mono (he s F) fun v s' x => by
    obtain ⟨⟨r, k⟩, hfr⟩ := x
    simp only [Rep] at r
    obtain ⟨a, us, rfl, hpl, rr⟩ := r
    have hl := hpl.isList
    obtain ⟨o, ho, hc, n, hd⟩ := id hl
    have hlt := Heap.lt_size ho
    have hnew : s.heap.get? s'.heap.objs.size = Option.none := by
      cases hq : s.heap.get? s'.heap.objs.size with
      | none => rfl
      | some o' => exact absurd (Heap.lt_size (kp_heap k _ _ hq)) (Nat.lt_irrefl _)
    refine wpAny_pyIter_list hl (hQ _ s'.heap.objs.size [s'.heap.objs.size, a] [s'.heap.objs.size] (fun i v => us[i]? = some v) (fun i h => h.IsListIter s'.heap.objs.size a i ∧ h.IsList a us) (kp_trans k ⟨_, _, rfl, fun b o e => Heap.get?_push_of_some _ e⟩) (ItOk.mk ?_ (fun i v hv => ?_) ⟨⟨_, Heap.get?_push_size _ rfl, rfl, rfl⟩, hl.push _⟩ ?_ ?_ ?_ ?_))
    · exact (by simpa using repL_len rr : us.size = items.length) ▸ Walks.list hA s'.heap.objs.size a (Nat.ne_of_lt hlt) us
    · obtain ⟨p, hp, rp⟩ := repL_get' rr i v (by simpa using hv)
      exact ⟨p, hp, rp.keeps fun b o e => Heap.get?_push_of_some _ e⟩
    · intro b hb
      simp only [List.mem_singleton] at hb; subst hb
      exact hnew
    · rintro i h ⟨⟨o1, e1, _, d1⟩, ⟨o2, e2, _, n2, d2⟩⟩ b hb
      simp only [List.mem_cons, List.not_mem_nil, or_false] at hb
      rcases hb with rfl | rfl
      · exact ⟨o1, e1, (fun _ _ e => by rw [d1] at e; cases e), (fun _ e => by rw [d1] at e; cases e)⟩
      · exact ⟨o2, e2, (fun _ _ e => by rw [d2] at e; cases e), (fun _ e => by rw [d2] at e; cases e)⟩
    · rintro i h ⟨⟨o1, e1, _, d1⟩, _⟩ b hb o e vs n d
      simp only [List.mem_singleton] at hb; subst hb
      rw [e1] at e; cases e; rw [d1] at d; cases d
    · intro b hb hm
      obtain ⟨o', e⟩ := hds s F b hm
      simp only [List.mem_cons, List.not_mem_nil, or_false] at hb
      rcases hb with rfl | rfl
      · rw [hnew] at e; cases e
      · rw [hfr _ rfl] at e; cases e
end
end
section
noncomputable def nmAt (names : List (List Nat)) (k : Nat) : List Nat := names.getD k []
noncomputable def rst (names : List (List Nat)) : List Nat → List Nat
  | [] => []
  | k :: r => if rst names r = [] then nmAt names k else pj (nmAt names k) (rst names r)
theorem rst_cons (names : List (List Nat)) (k : Nat) (r : List Nat) : rst names (k :: r) = if rst names r = [] then nmAt names k else pj (nmAt names k) (rst names r) := rfl
noncomputable def endsL (names : List (List Nat)) (row : List Nat) : List (List Nat) := (List.range row.length).map fun j => pj [47] (rst names (row.drop j))
noncomputable def endsP (names : List (List Nat)) (row : List Nat) (i : Nat) : List (List Nat) := (List.range i).map fun j => pj [47] (rst names (row.drop (row.length - 1 - j)))
theorem pj_length (a b : List Nat) : (pj a b).length ≤ a.length + b.length + 1 := by
  unfold pj
  split
  · omega
  · split
    · simp
    · simp; omega
theorem rst_length (names : List (List Nat)) (hn : ∀ n ∈ names, n.length ≤ 10) : ∀ r, (rst names r).length ≤ 11 * r.length
  | [] => by simp [rst]
  | k :: r => by
    have ih := rst_length names hn r
    have hk : (nmAt names k).length ≤ 10 := by
      unfold nmAt
      rw [List.getD_eq_getElem?_getD]
      cases h : names[k]? with
      | none => simp
      | some n => exact hn n (List.mem_of_getElem? h)
    unfold rst
    split
    · simp; omega
    · have := pj_length (nmAt names k) (rst names r)
      simp; omega
theorem endsP_rev (names : List (List Nat)) (row : List Nat) : (endsP names row row.length).reverse = endsL names row := by
  unfold endsP endsL
  rw [← List.map_reverse]
  refine List.ext_getElem? fun i => ?_
  rw [List.getElem?_map, List.getElem?_map]
  by_cases h : i < row.length
  · rw [List.getElem?_reverse (by simpa using h), List.length_range, List.getElem?_range (by omega), List.getElem?_range h]
    simp only [Option.map_some]
    rw [show row.length - 1 - (row.length - 1 - i) = i by omega]
  · rw [List.getElem?_eq_none (by simp; omega), List.getElem?_eq_none (by simp; omega)]
    rfl
theorem g_join {P : Params} : nsFind (esMain P) (Str.ofString "join") = some (.ref 162) := by kernel_rfl
theorem fn_join (w : World) : Fn w 162 := .mk (Mine.suf.o_164 w.params) (by kernel_rfl) rfl
theorem S_toList (l : List Nat) : (S l).cps.toList = l := rfl
noncomputable abbrev PVs (l : List (List Nat)) : List PV := l.map fun x => .str (S x)
noncomputable abbrev PVn (l : List Nat) : List PV := l.map fun x => .int (x : Nat)
theorem flat_s (l : List (List Nat)) : ∀ p ∈ PVs l, Flat p = true := fun p hp => by obtain ⟨x, _, rfl⟩ := List.mem_map.mp hp; rfl
theorem flat_n (l : List Nat) : ∀ p ∈ PVn l, Flat p = true := fun p hp => by obtain ⟨x, _, rfl⟩ := List.mem_map.mp hp; rfl

set_option maxHeartbeats 4000000 in
theorem pc_law_ends (w : World) (names : List (List Nat)) (row : List Nat) (hn : ∀ n ∈ names, n.length ≤ 10) (hr : ∀ k ∈ row, k < names.length) (hlen : row.length ≤ 20) (hnl : names.length ≤ 20) :
    PC w 5 231 [.list (PVs names), .list (PVn row)] (.plist (PVs (endsL names row))) := by
  have hd : (Mine.suf.o_239 w.params).data = .func _ := rfl
  refine PC.body [Str.ofString "names", Str.ofString "row"] [(Str.ofString "row", .list (PVn row)), (Str.ofString "names", .list (PVs names))] rfl (by kernel_rfl) hd (by kernel_rfl) rfl rfl rfl (fun vs h => ?_) ?_ rfl rfl rfl (fun L => Stable.tt) fun A s L hA => ?_
  · obtain ⟨v, u, rfl⟩ := len2 h; rfl
  · decide +kernel
  have hA3 : Lv 3 A := hA.less (by decide)
  refine SX.freeze (x := Str.ofString "names") (l := PVs names) (by walk_at "lk") (flat_s names) (nd_of (by decide +kernel)) fun a1 hz1 ho1 => ?_
  refine SX.freeze (x := Str.ofString "row") (l := PVn row) (by walk_at "lk") (flat_n row) (nd_of (by decide +kernel)) fun a2 hz2 ho2 => ?_
  refine SX.weak (m' := [(Str.ofString "row", .val (.ref a2)), (Str.ofString "names", .val (.ref a1))]) ?_ (fun p hp => ?_)
  rotate_left
  · simp only [List.mem_cons, List.not_mem_nil, or_false] at hp
    rcases hp with rfl | rfl <;> walk_at "lk"
  refine SX.newlist (by kernel_rfl) (by kernel_rfl) (by rfl) (nd_of (by decide +kernel)) fun d hz3 hod hoff hd0 => ?_
  refine SX.assign (EV.strS (l := []) (by decide +kernel)) (by kernel_rfl) (by kernel_rfl) (by rfl) ?_
  have hdrop : ∀ i, i ≤ row.length → row.reverse[i]? = row[row.length - 1 - i]? ∨ i = row.length := fun i hi => by
    by_cases h : i < row.length
    · exact .inl (by rw [List.getElem?_reverse h])
    · exact .inr (by omega)
  refine SX.for_ (items := PVn row.reverse) [d] (fun i => [(Str.ofString "rest", .str (S (rst names (row.drop (row.length - i))))), (Str.ofString "ends", .val (.ref d)), (Str.ofString "row", .val (.ref a2)), (Str.ofString "names", .val (.ref a1))])
    (fun _ => []) (fun i => Own1 d (PVs (endsP names row i))) (fun _ _ => False) (fun h => (True ∧ LAt a1 (PVs names) h) ∧ LAt a2 (PVn row) h) hoff ?y1 ?y2 (by simpa using hod) (nd_of (by decide +kernel)) (fun i => (hoff.less (by simp)).and (Own1.off hod)) ?m0 ?it (flat_n _) (by kernel_rfl) (by kernel_rfl) ?turn ?els ?brk
  case y1 =>
    rintro i h h' ⟨us, ⟨n, e⟩, q⟩ k
    exact ⟨us, ⟨n, (k d (by simp)).trans e⟩, q⟩
  case y2 =>
    rintro i h ⟨us, ⟨n, e⟩, q⟩ b hb
    simp only [List.mem_singleton] at hb; subst hb
    exact ⟨_, e⟩
  case m0 => simp [rst]
  case it =>
    refine ItV.listN hA.1 (by rw [show PVn row.reverse = (PVn row).reverse from List.map_reverse]; exact EVN.rev (EV.locZ (a := a2) (by walk_at "lk") (fun h z => z.1.2) (by kernel_rfl) (by kernel_rfl) (by kernel_rfl)) (hA.less (by decide)) (by rw [List.length_map]; show _ ≤ 16777216; omega)) fun s F d' hd' => ?_
    simp only [List.mem_singleton] at hd'; subst hd'
    obtain ⟨us, ⟨n, e⟩, q⟩ := (FIP.z F).2
    exact ⟨_, e⟩
  case turn =>
    intro i p Zb hzb hp hob hzx
    have hi : i < row.length := by
      have := List.getElem?_eq_some_iff.mp hp
      simpa using this.1
    obtain ⟨k, hk, rfl⟩ : ∃ k, row[row.length - 1 - i]? = some k ∧ p = .int (k : Nat) := by
      rw [List.getElem?_map, List.getElem?_reverse hi] at hp
      obtain ⟨k, hk, rfl⟩ := Option.map_eq_some_iff.mp hp
      exact ⟨k, hk, rfl⟩
    have hkn : k < names.length := hr k (List.mem_of_getElem? hk)
    have hstep : row.drop (row.length - (i + 1)) = k :: row.drop (row.length - i) := by
      have h1 : row.length - (i + 1) = row.length - 1 - i := by omega
      rw [h1, List.drop_eq_getElem_cons (by omega), show row.length - 1 - i + 1 = row.length - i by omega]
      have := List.getElem?_eq_some_iff.mp hk
      rw [this.2]
    have hr0 := rst_length names hn (row.drop (row.length - i))
    have hr1 := rst_length names hn (row.drop (row.length - (i + 1)))
    rw [List.length_drop] at hr0 hr1
    have hkl : (nmAt names k).length ≤ 10 := by
      unfold nmAt
      rw [List.getD_eq_getElem?_getD, List.getElem?_eq_getElem hkn]
      exact hn _ (List.getElem_mem _)
    have hitem : ∀ {m : List (Str × PV)} (hx : m.lookup (Str.ofString "names") = some (.val (.ref a1))) (hk : m.lookup (Str.ofString "k") = some (.int (k : Nat))), True := fun _ _ => trivial
    have hnk : (PVs names)[k]? = some (.str (S (nmAt names k))) := by
      unfold nmAt
      rw [List.getElem?_map, List.getD_eq_getElem?_getD, List.getElem?_eq_getElem hkn]; rfl
    refine SX.assign (pv := .str (S (rst names (row.drop (row.length - (i + 1)))))) ?_ (by kernel_rfl) (by kernel_rfl) (by rfl) ?_
    · rw [hstep]
      refine EV.ifexp (c := (S (rst names (row.drop (row.length - i)))).cps.toList == (S []).cps.toList) (EB.cmp (by walk_at "ev") (EV.strS (by decide +kernel)) CmpV.eq_str) (fun h => ?_) (fun h => ?_)
      · have h0 : rst names (row.drop (row.length - i)) = [] := by simpa [S_toList] using h
        rw [rst_cons, if_pos h0]
        exact EV.sub (EV.locZ (a := a1) (l := PVs names) (by walk_at "lk") (fun h z => (hzx h z.1).1.2) (by kernel_rfl) (by kernel_rfl) (by kernel_rfl)) (by walk_at "ev") (SubV.list hnk (by omega) (fun a u => by with_unfolding_all rfl) (fun a r => by with_unfolding_all rfl))
      · have h0 : ¬ rst names (row.drop (row.length - i)) = [] := by simpa [S_toList] using h
        rw [rst_cons, if_neg h0]
        refine EV.fn (pc_join w _ _ (by omega)) (fn_join w) hA3 (EV.glob FI.has g_join (by kernel_rfl) (by kernel_rfl) (by kernel_rfl) (by kernel_rfl)) (EVs.cons ?_ (EVs.cons (by walk_at "ev") EVs.nil rfl) rfl) FI.has
        exact EV.sub (EV.locZ (a := a1) (l := PVs names) (by walk_at "lk") (fun h z => (hzx h z.1).1.2) (by kernel_rfl) (by kernel_rfl) (by kernel_rfl)) (by walk_at "ev") (SubV.list hnk (by omega) (fun a u => by with_unfolding_all rfl) (fun a r => by with_unfolding_all rfl))
    · refine SX.append (d := d) (p := .str (S (pj [47] (rst names (row.drop (row.length - (i + 1))))))) (by walk_at "lk") hod hob hd0 ?_ (by simp) rfl ?ej ?_ (by kernel_rfl) (by kernel_rfl) (by kernel_rfl) (nd_of (by decide +kernel)) fun hz' => SX.nil fun s' F => ?_
      · intro q hq
        simp only [List.mem_cons, List.not_mem_nil, or_false] at hq
        rcases hq with rfl | rfl | rfl | rfl | rfl | rfl <;> rfl
      · refine EV.fn (pc_join w [47] (rst names (row.drop (row.length - (i + 1)))) (by simp; omega)) (fn_join w) hA3 (EV.glob FI.has g_join (by kernel_rfl) (by kernel_rfl) (by kernel_rfl) (by kernel_rfl)) (EVs.cons (EV.strS (by decide +kernel)) (EVs.cons ?_ EVs.nil rfl) rfl) FI.has
        walk_at "ev"
      · simp [endsP]; omega
      · show FIP _ _ _ _ _ _ _
        have e : PVs (endsP names row (i + 1)) = PVs (endsP names row i) ++ [.str (S (pj [47] (rst names (row.drop (row.length - (i + 1))))))] := by
          unfold endsP
          rw [List.range_succ]
          simp [show row.length - 1 - i = row.length - (i + 1) by omega]
        rw [e]
        refine F.weaken fun p hp => ?_
        simp only [List.mem_cons, List.not_mem_nil, or_false] at hp
        rcases hp with rfl | rfl | rfl | rfl <;> walk_at "lk"
  case els =>
    intro s' F
    have hl : (PVn row.reverse).length = row.length := by simp
    rw [hl] at F
    refine SX.then_nil (I := FI w s _ [(Str.ofString "rest", .str (S (rst names (row.drop (row.length - row.length))))), (Str.ofString "ends", .val (.ref d)), (Str.ofString "row", .val (.ref a2)), (Str.ofString "names", .val (.ref a1))] _ _ ((hoff.less (by simp)).and (Own1.off hod))) (SX.ret (pv := .plist (PVs (endsL names row))) ?_ fun s' v F r => ⟨v, rfl, r, FIP.kp F⟩) s' F
    rw [← endsP_rev, show PVs (endsP names row row.length).reverse = (PVs (endsP names row row.length)).reverse from List.map_reverse]
    exact EVN.ev (EVN.rev (EV.weak (EV.locO (a := d) (at_there (by kernel_rfl) at_here) (fun h z => z.2) (by kernel_rfl) (by kernel_rfl) (by kernel_rfl))) (hA.less (by decide)) (by rw [List.length_map]; simp [endsP, sizeLine]; omega))
  case brk => exact fun i s hi F => F.z.2.elim
end
section
section
variable {prog : Program} {w : World} {A : Around} {E : Value → Shared → Prop} {s : Shared}
theorem nextOf_tuple_item {it t : Addr} {i : Nat} {items : Array Value} {x : Value} {Q : Value → Shared → Prop} (hit : s.heap.IsTupleIter it t i) (ht : s.heap.IsTuple t items) (hx : items[i]? = some x)
    (hQ : ∀ h', h'.IsTupleIter it t (i + 1) → Heap.SameBut it s.heap h' → Q x { s with heap := h' }) : wpAny (model prog w) A (Builtin.SmallTypes.nextOf (.ref it)) Q E s := by
  obtain ⟨o, ho, hc, hd⟩ := id hit
  obtain ⟨ol, hol, _, nl, hdl⟩ := ht
  unfold Builtin.SmallTypes.nextOf
  refine wpAny_bind (wpAny_callSpecial?_slot (name := Str.ofString "__next__") hit.typeIs F.slot_tuple_iterator_next
    (wpAny_call_entry F.slot_tuple_iterator_next hit.typeIs F.entry_tuple_iterator_next ?_ (F.args_tuple_iterator_next_1 _)))
  show wpAny _ _ (field (.ref it) 0 >>= _) _ _ s
  refine wpAny_bind (wpAny_field ho hd (x := .ref t) rfl ?_)
  show wpAny _ _ (if (Value.ref t == Value.none) = true then _ else _) _ _ s
  rw [if_neg (show ¬ ((Value.ref t == Value.none) = true) from Bool.false_ne_true)]
  show wpAny _ _ (field (.ref it) 1 >>= _) _ _ s
  refine wpAny_bind (wpAny_field ho hd (x := .int i 0) rfl ?_)
  show wpAny _ _ (seqItems? (.ref t) >>= _) _ _ s
  refine wpAny_bind (wpAny_seqItems hol hdl ?_)
  simp only [Int.toNat_natCast, hx]
  refine wpAny_bind (wpAny_setField ho hd (by simp) (wpAny_pure ⟨x, rfl, wpAny_pure (hQ _ ?_ (Heap.SameBut.update ..))⟩))
  exact ⟨_, Heap.get?_update_self _ ho (Obj.isFreed_of_fields (Obj.data_mapFields hd _)), (Obj.cls_mapFields ..).trans hc, by
    rw [Obj.data_mapFields hd]; simp [rawInt]⟩
theorem nextOf_tuple_end {it t : Addr} {i : Nat} {items : Array Value} {Q : Value → Shared → Prop} (hh : A.handled = none) (hit : s.heap.IsTupleIter it t i) (ht : s.heap.IsTuple t items) (hx : items[i]? = none)
    (hE : ∀ h' e, Heap.ExtBut it s.heap h' → (∃ o, h'.get? e = some o ∧ o.cls = .type "StopIteration") → E (.ref e) { s with heap := h' }) :
    wpAny (model prog w) A (Builtin.SmallTypes.nextOf (.ref it)) Q E s := by
  obtain ⟨o, ho, hc, hd⟩ := id hit
  obtain ⟨ol, hol, _, nl, hdl⟩ := ht
  unfold Builtin.SmallTypes.nextOf
  refine wpAny_bind (wpAny_callSpecial?_slot (name := Str.ofString "__next__") hit.typeIs F.slot_tuple_iterator_next
    (wpAny_call_entry F.slot_tuple_iterator_next hit.typeIs F.entry_tuple_iterator_next ?_ (F.args_tuple_iterator_next_1 _)))
  show wpAny _ _ (field (.ref it) 0 >>= _) _ _ s
  refine wpAny_bind (wpAny_field ho hd (x := .ref t) rfl ?_)
  show wpAny _ _ (if (Value.ref t == Value.none) = true then _ else _) _ _ s
  rw [if_neg (show ¬ ((Value.ref t == Value.none) = true) from Bool.false_ne_true)]
  show wpAny _ _ (field (.ref it) 1 >>= _) _ _ s
  refine wpAny_bind (wpAny_field ho hd (x := .int i 0) rfl ?_)
  show wpAny _ _ (seqItems? (.ref t) >>= _) _ _ s
  refine wpAny_bind (wpAny_seqItems hol hdl ?_)
  simp only [Int.toNat_natCast, hx]
  refine wpAny_bind (wpAny_rule (wpAny_bind (wpAny_setField ho hd (by simp) ?_)))
  show wpAny _ _ (newExc (.type "StopIteration") [] >>= _) _ _ _
  refine wpAny_bind ?_
  simp only [newExc, newTuple]
  refine wpAny_bind (wpAny_newObj_type ?_ (by size_fits))
  refine wpAny_bind (m := firstArgMember _ _) (wpAny_of_eq (a := Value.none) (by first | rfl | (simp only [firstArgMember]; rfl)) ?_)
  refine wpAny_newObj_type ?_ (by size_fits)
  simp only [raiseNew]
  refine wpAny_bind (wpAny_handled ?_)
  first | rw [show A.in1.handled = none from hh] | rw [hh]
  refine wpAny_bind (wpAny_pure (wpAny_throw ?_))
  exact hE _ _ (((Heap.SameBut.update ..).extBut.push _).push _) ⟨_, Heap.get?_push_size _ rfl, rfl⟩
end
theorem drawsTuple {prog : Program} {w : World} {A : Around} (hh : A.handled = none) (it l : Addr) (hne : l ≠ it) (items : Array Value) :
    Draws prog w A it [it, l] items.size (fun i v => items[i]? = some v) (fun i h => h.IsTupleIter it l i ∧ h.IsTuple l items) where
  live := fun _ _ st => let ⟨o, ho, _⟩ := st.1; ⟨o, ho⟩
  frame := fun _ _ _ st hk => ⟨st.1.at fun o e => hk it (by simp) o e, st.2.at fun o e => hk l (by simp) o e⟩
  item := fun i s Q E hi st hQ => by
    refine nextOf_tuple_item st.1 st.2 (x := items[i]) (by simp [hi]) fun h' hit' hs' => ?_
    exact hQ _ h' s.toks (by simp [hi]) ⟨hit', st.2.extBut hs'.extBut hne⟩ hs'
  done := fun s Q E st hE => nextOf_tuple_end hh st.1 st.2 (by simp) hE
theorem meets_enum_tuple (l : Addr) (items : Array Value) (n : Nat) :
    Meets (Builtin.«enumerate.__new__» ⟨[.type "enumerate", .ref l], []⟩) (fun _ R s => s.heap.get? l = some { cls := .type "tuple", dict := none, data := .seq items n, slots := #[] } ∧
      R (.ok (.ret (.ref (s.heap.push { cls := .type "tuple_iterator", data := .fields #[.ref l, .int 0 0] }).objs.size)))
        { s with heap := (s.heap.push { cls := .type "tuple_iterator", data := .fields #[.ref l, .int 0 0] }).push { cls := .type "enumerate", data := .fields #[.none, .bool false, .ref s.heap.objs.size, rawInt 0, .none, .none] } }) :=
  .of_wp fun prog w A R s h => by
    obtain ⟨hp, g, d, tk, os⟩ := s
    obtain ⟨hl, h⟩ := h
    have hL : hp.IsTuple l items := ⟨_, hl, rfl, n, rfl⟩
    have hsub := sub_enumerate
    wp_walk
    refine wpAny_stack_any fun st => wpAny_pure ?_
    split
    · rename_i c _ _ _ _ _
      cases (c == Value.type "enumerate")
      · wp_walk using wpAny_pyIter_tuple hL
        exact ⟨_, rfl, h⟩
      · wp_walk using wpAny_pyIter_tuple hL
        exact ⟨_, rfl, h⟩
    · wp_walk using wpAny_pyIter_tuple hL
      exact ⟨_, rfl, h⟩
theorem call_enum_tuple {prog : Program} {w : World} {A : Around} {E : Value → Shared → Prop} {s : Shared} {l : Addr} {items : Array Value} {n : Nat} {Q : Value → Shared → Prop} (hl : s.heap.get? l = some { cls := .type "tuple", dict := none, data := .seq items n, slots := #[] })
    (h : ∀ h', IsEnum h' (s.heap.objs.size + 1) s.heap.objs.size 0 .none → h'.IsTupleIter s.heap.objs.size l 0 → h'.objs.size = s.heap.objs.size + 2 →
      (∀ b o, s.heap.get? b = some o → h'.get? b = some o) → Q (.ref (s.heap.objs.size + 1)) { s with heap := h' }) :
    wpAny (model prog w) A (call (.type "enumerate") [.ref l]) Q E s := by
  refine callType_new F.called_enumerate (by decide) (F.typeCall_enumerate_1 _) (F.newCall_enumerate_1 _) (fun obj => F.args_object_init_2 obj _) F.entry_enumerate_new
    (meets_enum_tuple l items n) ⟨hl, ?_⟩
  have hz : (s.heap.push { cls := .type "tuple_iterator", data := .fields #[.ref l, .int 0 0] }).objs.size = s.heap.objs.size + 1 := Heap.size_push ..
  show _ ∧ _
  rw [hz]
  have he : IsEnum ((s.heap.push { cls := .type "tuple_iterator", data := .fields #[.ref l, .int 0 0] }).push
      { cls := .type "enumerate", data := .fields #[.none, .bool false, .ref s.heap.objs.size, rawInt 0, .none, .none] }) (s.heap.objs.size + 1) s.heap.objs.size 0 .none := by
    have := Heap.get?_push_size (s.heap.push { cls := .type "tuple_iterator", data := .fields #[.ref l, .int 0 0] })
      (o := { cls := .type "enumerate", data := .fields #[.none, .bool false, .ref s.heap.objs.size, rawInt 0, .none, .none] }) rfl
    rw [hz] at this; exact this
  refine ⟨⟨_, he, rfl⟩, h _ he ⟨_, Heap.get?_push_of_some _ (Heap.get?_push_size _ rfl), rfl, rfl⟩ (by rw [Heap.size_push, hz]) fun b o x => Heap.get?_push_of_some _ (Heap.get?_push_of_some _ x)⟩
end
section
structure ItOkU (w : World) (A : Around) (items : List (PV × PV)) (ds : List Addr) (g h0 : Heap) (it : Addr) (fp wr : List Addr) (Pt : Nat → Array Value → Prop) (St : Nat → Heap → Prop) (Mid : Nat → Addr → Heap → Prop) : Prop where
  walks : WalksU PF w A it fp wr items.length Pt St Mid
  vals : ∀ i vs, Pt i vs → ∃ p q v u, items[i]? = some (p, q) ∧ vs = #[v, u] ∧ Rep h0 p v ∧ Rep h0 q u
  st : St 0 h0
  free : ∀ b ∈ wr, g.get? b = none
  ex : ∀ i h, St i h → ∀ b ∈ fp, ∃ o, h.get? b = some o ∧ (∀ es ep, o.data ≠ .dict es ep) ∧ (∀ v, o.data ≠ .cell v)
  nseq : ∀ i h, St i h → ∀ b ∈ wr, ∀ o, h.get? b = some o → ∀ vs n, o.data ≠ .seq vs n
  exM : ∀ i T h, Mid i T h → ∀ b ∈ wr, ∃ o, h.get? b = some o ∧ (∀ es ep, o.data ≠ .dict es ep) ∧ (∀ v, o.data ≠ .cell v) ∧ (∀ vs n, o.data ≠ .seq vs n)
  off : ∀ b ∈ fp, b ∉ ds
noncomputable def ItVU (w : World) (A : Around) (env : Env) (I : Inv) (ds : List Addr) (iter : Expr) (items : List (PV × PV)) : Prop :=
  ∀ s, I.P s → ∀ (Q : Value → Shared → Prop) (E : Value → Shared → Prop), (∀ s' it fp wr Pt St Mid, Keeps s s' → ItOkU w A items ds s.heap s'.heap it fp wr Pt St Mid → Q (.ref it) s') →
    wpAny (model PF w) A (eval iter env) (fun v s₁ => wpAny (model PF w) A (pyIter v) Q E s₁) E s
section
variable {w : World} {A : Around} {env : Env} {s0 : Shared} {m cm : List (Str × PV)} {R : Flow → Shared → Prop} {ss : List Stmt}
theorem SX.for2 {x y : Str} {px py pt pos : Pos} {kk : Nat} {iter : Expr} {body orelse : List Stmt} {items : List (PV × PV)} (ds : List Addr) (M MB : Nat → List (Str × PV)) (Y YB : Nat → Heap → Prop) (Zx : Heap → Prop) (hA : A.handled = none) (hZ : Off env ds Zx)
    (hY : ∀ i h h', Y i h → (∀ d ∈ ds, h'.get? d = h.get? d) → Y i h') (hYx : ∀ i h, Y i h → ∀ d ∈ ds, ∃ o, h.get? d = some o) (hdo : ∀ d ∈ ds, ¬ Own env d) (hnd : (env.cells.map (·.1)).Nodup)
    (hz : ∀ i, Stable env fun h => Zx h ∧ Y i h) (hm : M 0 = m)
    (hit : ItVU w A env (FI w s0 env m cm (fun h => Zx h ∧ Y 0 h) (hz 0)) ds iter items) (hfl : ∀ p ∈ items, Flat p.1 = true ∧ Flat p.2 = true) (hl : env.kindOf x = some .local) (hl2 : env.kindOf y = some .local) (hk : env.scope.kind = .function)
    (turn : ∀ i p q Zb (hzb : Stable env fun h => Zb h ∧ Y i h), items[i]? = some (p, q) → Off env ds Zb → (∀ h, Zb h → Zx h) → SX w A env (FI w s0 env ((y, q) :: (x, p) :: M i) cm (fun h => Zb h ∧ Y i h) hzb) body
      (fun f s' => match f with | .next | .cont => FIP w s0 env (M (i + 1)) cm (fun h => Zb h ∧ Y (i + 1) h) s' | .brk => FIP w s0 env (MB i) cm (fun h => Zb h ∧ YB i h) s' | .ret v => R (.ret v) s'))
    (hels : ∀ s, FIP w s0 env (M items.length) cm (fun h => Zx h ∧ Y items.length h) s → wpAny (model PF w) A (execs orelse env) (Then w A env ss R) No s)
    (hbrk : ∀ i s, i < items.length → FIP w s0 env (MB i) cm (fun h => Zx h ∧ YB i h) s → wpAny (model PF w) A (execs ss env) R No s)
    (hs : ∀ x, foldedSetIterable iter env x = pure x := by intro _; rfl) (ha : assignEach [.Name x px, .Name y py] env = [(false, PySem.assign (.Name x px) env), (false, PySem.assign (.Name y py) env)] := by rfl) :
    SX w A env (FI w s0 env m cm (fun h => Zx h ∧ Y 0 h) (hz 0)) (.For (.Tuple [.Name x px, .Name y py] kk pt) iter body orelse pos :: ss) R := fun s F => by
  subst hm
  refine wpAny_execs_cons (wpAny_For (hit s F _ _ fun s' it fp wr Pt St Mid k ok => ?_) hs)
  have F' : FIP w s0 env (M 0) cm (fun h => Zx h ∧ Y 0 h) s' := (FI w s0 env (M 0) cm (fun h => Zx h ∧ Y 0 h) (hz 0)).mono _ _ F k
  have hfo : ∀ b ∈ fp, ¬ Own env b := fun b hb => by
    obtain ⟨o, e, hs⟩ := ok.ex 0 _ ok.st b hb
    exact own_get F' e hs hnd
  have hst : ∀ i, Off env ds (St i) := fun i => ⟨fp, fun b hb => ⟨hfo b hb, ok.off b hb⟩, fun h st b hb => let ⟨o, e, _⟩ := ok.ex i h st b hb; ⟨o, e⟩, fun h h' st kk => ok.walks.frame i h h' st fun b hb o e => (kk b hb).trans e⟩
  have h1 : ∀ i, Stable env (Y i) := fun i => ⟨ds, fun b hb => ⟨hdo b hb, by simp⟩, fun h y b hb => hYx i h y b hb, fun h h' y kk => hY i h h' y kk⟩
  refine codeAny_forLoop_any (fun n s1 => ∃ i, i ≤ items.length ∧ n = items.length + 1 - i ∧ FIP w s0 env (M i) cm (fun h => (Zx h ∧ St i h) ∧ Y i h) s1) ?_ (items.length + 1) ⟨0, Nat.zero_le _, rfl, F'.restab ⟨⟨F'.z.1, ok.st⟩, F'.z.2⟩⟩
  rintro n s1 ⟨i, hi, rfl, F1⟩
  have hg : KpH s0.heap s.heap := kp_heap F.kp
  have hwo : ∀ b ∈ wr, ∀ o, s1.heap.get? b = some o → (∀ es ep, o.data ≠ .dict es ep) ∧ (∀ v, o.data ≠ .cell v) ∧ (∀ vs n, o.data ≠ .seq vs n) := fun b hb o e => by
    obtain ⟨o', e', h1, h2⟩ := ok.ex i _ F1.z.1.2 b (ok.walks.sub b hb)
    rw [e] at e'; cases e'
    exact ⟨h1, h2, ok.nseq i _ F1.z.1.2 b hb o e⟩
  have hYk : ∀ {h h'}, Y i h → (∀ b o, b ∉ wr → h.get? b = some o → h'.get? b = some o) → Y i h' := fun {h h'} y kk => hY i _ _ y fun d hd => by
    obtain ⟨o, e⟩ := hYx i _ y d hd
    rw [e]
    refine kk d o (fun hm => ?_) e
    obtain ⟨o', e'⟩ := hYx 0 _ F.z.2 d hd
    rw [ok.free d hm] at e'; cases e'
  by_cases hlt : i < items.length
  · refine ok.walks.item i s1 _ _ hlt F1.z.1.2 fun T vs h' tk hP hT hM hkk => ?_
    obtain ⟨p, q, v, u, hp, rfl, rp, rq⟩ := ok.vals i vs hP
    have F2 : FIP w s0 env (M i) cm (fun h => Zx h ∧ Y i h) { s1 with heap := h', toks := tk } :=
      F1.next hnd hg ok.free hwo hkk ⟨hZ.fresh F.z.1 F1.z.1.1 ok.free hkk, hYk F1.z.2 hkk⟩
    refine ok.walks.go _ _ _ i T _ _ _ hM fun h2 hS2 hk2 => ?_
    have F3 : FIP w s0 env (M i) cm (fun h => (Zx h ∧ St (i + 1) h) ∧ Y i h) { s1 with heap := h2, toks := tk } :=
      F2.next (tk := tk) hnd hg ok.free (fun b hb o e => by
        obtain ⟨o', e', q1, q2, q3⟩ := ok.exM i T _ hM b hb
        rw [show h'.get? b = some o from e] at e'; cases e'
        exact ⟨q1, q2, q3⟩) hk2 ⟨⟨hZ.fresh F.z.1 F2.z.1 ok.free hk2, hS2⟩, hYk F2.z.2 hk2⟩
    have hT2 : h2.IsTuple T #[v, u] := hT.at fun o e => hk2 T o (ok.walks.apart i T _ hM) e
    have hzb : Stable env fun h => (Zx h ∧ St (i + 1) h) ∧ Y i h := ((hZ.and (hst (i + 1))).less (by simp)).and (h1 i)
    refine wpAny_assign_Tuple hA hT2 (by rw [ha]; rfl) (by rw [ha]; rfl) fun h3 hx3 => ?_
    have k3 : Keeps { s1 with heap := h2, toks := tk } { s1 with heap := h3, toks := tk } := ⟨h3, tk, rfl, fun b o e => hx3 b o (Nat.ne_of_lt (Heap.lt_size e)) e⟩
    have F4 := (FI w s0 env (M i) cm (fun h => (Zx h ∧ St (i + 1) h) ∧ Y i h) hzb).mono _ _ F3 k3
    rw [ha]
    show wpAny _ A (do holding [u] (PySem.assign (.Name x px) env v); do holding [] (PySem.assign (.Name y py) env u); pure ()) _ _ _
    have hfp := hfl _ (List.mem_of_getElem? hp)
    refine wpAny_bind (wpAny_holding (wpAny_assign_Name (SX.store F4 hzb (rp.flat hfp.1) hl hk fun s5 F5 _ => ?_)))
    refine wpAny_bind (wpAny_holding (wpAny_assign_Name (SX.store F5 hzb (rq.flat hfp.2) hl2 hk fun s6 F6 _ => wpAny_pure ?_)))
    refine no_mono (turn i p q _ hzb hp (hZ.and (hst (i + 1))) (fun h z => z.1) s6 F6) fun f s4 h4 => ?_
    cases f with
    | next => exact ⟨items.length + 1 - (i + 1), by omega, i + 1, hlt, rfl, h4⟩
    | cont => exact ⟨items.length + 1 - (i + 1), by omega, i + 1, hlt, rfl, h4⟩
    | brk => exact hbrk i s4 hlt (h4.restab ⟨h4.z.1.1, h4.z.2⟩)
    | ret v => exact h4
  · have hin : i = items.length := by omega
    subst hin
    refine ok.walks.done s1 _ _ F1.z.1.2 fun h' tk hkk => ?_
    have F2 : FIP w s0 env (M items.length) cm (fun h => Zx h ∧ Y items.length h) { s1 with heap := h', toks := tk } :=
      F1.next hnd hg ok.free hwo hkk ⟨hZ.fresh F.z.1 F1.z.1.1 ok.free hkk, hYk F1.z.2 hkk⟩
    exact no_mono (hels _ F2) fun f s3 h3 => by cases f <;> exact h3
end
end
section
theorem letOwned_tupleiter {prog : Program} {w : World} {A : Around} {E : Value → Shared → Prop} {s : Shared} {elts : List Expr} {x1 : Nat} {pos : Pos} {I l T : Addr} {i : Nat} {Q : Unit → Shared → Prop} (hit : s.heap.IsTupleIter I l i) (hQ : Q () s) :
    wpAny (model prog w) A (letOwnedTupleGo (.Tuple elts x1 pos) (.ref I) (.ref T)) Q E s := by
  obtain ⟨o, ho, hc, hd⟩ := hit
  unfold letOwnedTupleGo
  refine wpAny_bind (wpAny_load ho ?_)
  rw [hc, hd]
  dsimp only
  rw [if_neg (by
    rw [Bool.and_eq_true]
    rintro ⟨h, _⟩
    exact absurd h (by decide))]
  exact wpAny_pure hQ
theorem walksTT {prog : Program} {w : World} {A : Around} (hh : A.handled = none) (I ax : Addr) (hne : ax ≠ I) (items : Array Value) (Ts : Nat → Addr) (vals : Nat → Array Value)
    (hit : ∀ j, j < items.size → items[j]? = some (.ref (Ts j))) (hTI : ∀ j, j < items.size → Ts j ≠ I) :
    WalksU prog w A I (I :: ax :: (List.range items.size).map Ts) [I] items.size (fun j v => v = vals j)
      (fun j h => h.IsTupleIter I ax j ∧ h.IsTuple ax items ∧ ∀ k, k < items.size → h.IsTuple (Ts k) (vals k))
      (fun j T h => (j < items.size ∧ T = Ts j) ∧ h.IsTupleIter I ax (j + 1) ∧ h.IsTuple ax items ∧ ∀ k, k < items.size → h.IsTuple (Ts k) (vals k)) where
  sub := fun b hb => by simp at hb; simp [hb]
  frame := fun _ _ _ st hk => ⟨st.1.at fun o e => hk I (by simp) o e, st.2.1.at fun o e => hk ax (by simp) o e,
    fun k hk' => (st.2.2 k hk').at fun o e => hk (Ts k) (List.mem_cons_of_mem _ (List.mem_cons_of_mem _ (List.mem_map.mpr ⟨k, List.mem_range.mpr hk', rfl⟩))) o e⟩
  item := fun i s Q E hi st hQ => by
    refine wpAny_pyNext_tuple_item st.1 st.2.1 (x := .ref (Ts i)) (hit i hi) fun h' hit' hs' => ?_
    have tup : ∀ k, k < items.size → h'.IsTuple (Ts k) (vals k) := fun k hk' => (st.2.2 k hk').extBut hs'.extBut (hTI k hk')
    exact hQ (Ts i) (vals i) h' s.toks rfl (tup i hi) ⟨⟨hi, rfl⟩, hit', st.2.1.extBut hs'.extBut hne, tup⟩ fun b o hb e => hs'.extBut b o (fun h => hb (by simp [h])) e
  go := fun _ _ _ _ _ s Q _ hm hQ => letOwned_tupleiter hm.2.1 (hQ s.heap hm.2 fun _ _ _ e => e)
  apart := fun j T _ hm hmem => by
    rcases List.mem_cons.mp hmem with e | e
    · exact hTI j hm.1.1 (hm.1.2 ▸ e)
    · cases e
  done := fun s Q E st hQ => wpAny_pyNext_tuple_end hh st.1 st.2.1 (by simp) fun h' he' => hQ h' s.toks fun b o hb e => he' b o (fun h => hb (by simp [h])) e
  self := fun _ _ _ _ st hQ => wpAny_pyIter_tupleiter st.1 hQ

/-- a table of filemode: its place, the places of its pairs, the pairs -/
structure FmTab (w : World) (a : Addr) (ps : List Addr) (bs : List (Nat × Nat)) : Prop where
  len : ps.length = bs.length
  tab : ∃ n, (KXF w.params).lookup a = some { cls := .type "tuple", data := .seq (ps.map Value.ref).toArray n }
  pair : ∀ (k : Nat) (p : Addr) (b c : Nat), ps[k]? = some p → bs[k]? = some (b, c) → ∃ n t u, (KXF w.params).lookup p = some { cls := .type "tuple", data := .seq #[.int (b : Nat) t, .str (S [c]) u] n }
section
variable {w : World} {A : Around} {env : Env}
theorem ItVU.table {I : Inv} {iter : Expr} {a : Addr} {ps : List Addr} {bs : List (Nat × Nat)} {ds : List Addr} (hA : A.handled = none) (hI : I.Has w) (he : EV w A env I iter (.val (.ref a))) (T : FmTab w a ps bs) (hds : ∀ s, I.P s → ∀ d ∈ ds, ∃ o, s.heap.get? d = some o ∧ (KXF w.params).lookup d = Option.none) :
    ItVU w A env I ds iter (bs.map fun p => (.int (p.1 : Nat), .str (S [p.2]))) := fun s F Q E hQ =>
  he.use F fun v s' r k F' => by
    simp only [Rep] at r; subst r
    obtain ⟨n, ht⟩ := T.tab
    have X := (hI.x s' F').1
    have X0 := (hI.x s F).1
    have ho := X _ _ ht
    have hl : s'.heap.IsTuple a (ps.map Value.ref).toArray := ⟨_, ho, rfl, n, rfl⟩
    have hlt := Heap.lt_size ho
    have hpk : ∀ j, j < ps.length → ∃ b c n t u, bs[j]? = some (b, c) ∧ (KXF w.params).lookup (ps.getD j 0) = some { cls := .type "tuple", data := .seq #[.int (b : Nat) t, .str (S [c]) u] n } := fun j hj => by
      have hb : bs[j]? = some (bs[j]'(T.len ▸ hj)) := List.getElem?_eq_getElem _
      obtain ⟨n, t, u, e⟩ := T.pair j ps[j] _ _ (List.getElem?_eq_getElem hj) hb
      refine ⟨_, _, n, t, u, hb, ?_⟩
      rw [List.getD_eq_getElem?_getD, List.getElem?_eq_getElem hj]; exact e
    have hex : ∀ j, ∃ vs : Array Value, j < ps.length → ∃ b c n t u, bs[j]? = some (b, c) ∧ vs = #[.int (b : Nat) t, .str (S [c]) u] ∧ (KXF w.params).lookup (ps.getD j 0) = some { cls := .type "tuple", data := .seq vs n } := fun j => by
      by_cases hj : j < ps.length
      · obtain ⟨b, c, n, t, u, h1, h2⟩ := hpk j hj
        exact ⟨#[.int (b : Nat) t, .str (S [c]) u], fun _ => ⟨b, c, n, t, u, h1, rfl, h2⟩⟩
      · exact ⟨#[], fun h => absurd h hj⟩
    have hvs := fun j => Classical.choose_spec (hex j)
    have hsz : (ps.map Value.ref).toArray.size = ps.length := by simp
    have W := walksTT (prog := PF) (w := w) (A := A) hA s'.heap.objs.size a (Nat.ne_of_lt hlt) (ps.map Value.ref).toArray (fun j => ps.getD j 0) (fun j => Classical.choose (hex j)) (fun j hj => by
      rw [hsz] at hj
      simp [List.getD_eq_getElem?_getD, List.getElem?_eq_getElem hj]) (fun j hj => by
      rw [hsz] at hj
      obtain ⟨b, c, n, t, u, _, _, e⟩ := hvs j hj
      exact Nat.ne_of_lt (Heap.lt_size (X _ _ e)))
    have W' := W.bound
    rw [hsz] at W'
    have hlen2 : (bs.map fun (p : Nat × Nat) => ((PV.int (p.1 : Nat), PV.str (S [p.2])) : PV × PV)).length = ps.length := by rw [List.length_map, T.len]
    refine wpAny_pyIter_tuple hl (hQ _ s'.heap.objs.size (s'.heap.objs.size :: a :: (List.range ps.length).map (fun j => ps.getD j 0)) [s'.heap.objs.size] (fun j v => j < ps.length ∧ v = Classical.choose (hex j))
      (fun j h => h.IsTupleIter s'.heap.objs.size a j ∧ h.IsTuple a (ps.map Value.ref).toArray ∧ ∀ k, k < ps.length → h.IsTuple (ps.getD k 0) (Classical.choose (hex k)))
      (fun j T h => (j < ps.length ∧ T = ps.getD j 0) ∧ h.IsTupleIter s'.heap.objs.size a (j + 1) ∧ h.IsTuple a (ps.map Value.ref).toArray ∧ ∀ k, k < ps.length → h.IsTuple (ps.getD k 0) (Classical.choose (hex k)))
      (kp_trans k ⟨_, _, rfl, fun b o e => Heap.get?_push_of_some _ e⟩) ⟨by rw [hlen2]; exact W', ?_, ?_, ?_, ?_, ?_, ?_, ?_⟩)
    · rintro i vs ⟨hi, rfl⟩
      obtain ⟨b, c, n, t, u, h1, h2, _⟩ := hvs i hi
      exact ⟨_, _, _, _, by rw [List.getElem?_map, h1]; rfl, h2, rep_int, rep_str⟩
    · refine ⟨⟨_, Heap.get?_push_size _ rfl, rfl, rfl⟩, hl.push _, fun j hj => ?_⟩
      obtain ⟨b, c, n, t, u, _, _, e⟩ := hvs j hj
      exact ⟨_, Heap.get?_push_of_some _ (X _ _ e), rfl, n, rfl⟩
    · intro b hb
      simp only [List.mem_singleton] at hb; subst hb
      cases hq : s.heap.get? s'.heap.objs.size with
      | none => rfl
      | some o' => exact absurd (Heap.lt_size (kp_heap k _ _ hq)) (Nat.lt_irrefl _)
    · rintro i h ⟨⟨o1, e1, _, d1⟩, ⟨o2, e2, _, n2, d2⟩, ht3⟩ b hb
      rcases List.mem_cons.mp hb with rfl | hb
      · exact ⟨o1, e1, (fun _ _ e => by rw [d1] at e; cases e), (fun _ e => by rw [d1] at e; cases e)⟩
      rcases List.mem_cons.mp hb with rfl | hb
      · exact ⟨o2, e2, (fun _ _ e => by rw [d2] at e; cases e), (fun _ e => by rw [d2] at e; cases e)⟩
      obtain ⟨j, hj, rfl⟩ := List.mem_map.mp hb
      obtain ⟨o3, e3, _, n3, d3⟩ := ht3 j (List.mem_range.mp hj)
      exact ⟨o3, e3, (fun _ _ e => by rw [d3] at e; cases e), (fun _ e => by rw [d3] at e; cases e)⟩
    · rintro i h ⟨⟨o1, e1, _, d1⟩, _⟩ b hb o e vs n d
      simp only [List.mem_singleton] at hb; subst hb
      rw [e1] at e; cases e; rw [d1] at d; cases d
    · rintro i T h ⟨_, ⟨o1, e1, _, d1⟩, _⟩ b hb
      simp only [List.mem_singleton] at hb; subst hb
      exact ⟨o1, e1, (fun _ _ e => by rw [d1] at e; cases e), (fun _ e => by rw [d1] at e; cases e), (fun _ _ e => by rw [d1] at e; cases e)⟩
    · intro b hb hm
      obtain ⟨o', e'⟩ := hds s F b hm
      rcases List.mem_cons.mp hb with rfl | hb
      · exact absurd (Heap.lt_size (kp_heap k _ _ e'.1)) (Nat.lt_irrefl _)
      rcases List.mem_cons.mp hb with rfl | hb
      · rw [ht] at e'; cases e'.2
      obtain ⟨j, hj, rfl⟩ := List.mem_map.mp hb
      obtain ⟨b, c, n, t, u, _, _, e⟩ := hvs j (List.mem_range.mp hj)
      rw [e] at e'; cases e'.2
end
end
section
section
variable {w : World} {A : Around} {env : Env}
theorem ItVU.enumT {I : Inv} {x : Str} {p pos : Pos} {e : Expr} {a : Addr} {ts : List Addr} {ds : List Addr} (hA : A.handled = none) (hI : I.Has w) (hn : EV w A env I (.Name x p) (.val (.type "enumerate"))) (he : EV w A env I e (.val (.ref a)))
    (T : ∃ n, (KXF w.params).lookup a = some { cls := .type "tuple", data := .seq (ts.map Value.ref).toArray n }) (hds : ∀ s, I.P s → ∀ d ∈ ds, ∃ o, s.heap.get? d = some o ∧ (KXF w.params).lookup d = Option.none)
    (h1 : eval (.Call (.Name x p) [e] [] pos) env = (do callWith pos (← eval (.Name x p) env) [] (backTo pos (starEach [e] env)) (backToKw pos (keywordEach [] env))) := by rfl)
    (h2 : starEach [e] env = (false, eval e env) :: starEach [] env := by rfl) :
    ItVU w A env I ds (.Call (.Name x p) [e] [] pos) ((List.range ts.length).map fun (i : Nat) => (.int (i : Nat), .val (.ref (ts.getD i 0)))) := fun s F Q E hQ =>
  Call_ (hn.use F fun v s0 r k0 F0 => by
    simp only [Rep] at r; subst r
    refine PyProof.Rows.callWith_type1 (args_cons (he.use F0 fun v2 s' r2 k2 F' => args_nil ?_) h2) h2
    simp only [Rep] at r2; subst r2
    have k := kp_trans k0 k2
    obtain ⟨n, ht⟩ := T
    have X := (hI.x s' F').1
    have ho := X _ _ ht
    have hlt := Heap.lt_size ho
    refine call_enum_tuple ho fun h' he' hit' hsz hk => wpAny_pyIter_enum he' ?_
    have hl : h'.IsTuple a (ts.map Value.ref).toArray := ⟨_, hk _ _ ho, rfl, n, rfl⟩
    have hs2 : (ts.map Value.ref).toArray.size = ts.length := by simp
    have hef : s'.heap.objs.size + 1 ∉ [s'.heap.objs.size, a] := fun h => by
      simp only [List.mem_cons, List.not_mem_nil, or_false] at h
      rcases h with h | h
      · exact Nat.succ_ne_self _ h
      · rw [← h] at hlt; exact absurd hlt (Nat.not_lt.mpr (Nat.le_succ _))
    have W := ((WalksT.enumerateD (prog := PF) (w := w) (A := A) (drawsTuple (A := A.in1) hA s'.heap.objs.size a (Nat.ne_of_lt hlt) (ts.map Value.ref).toArray) (s'.heap.objs.size + 1) (Nat.succ_ne_self _) hef (by simp)).toU).bound
    rw [hs2] at W
    have hfr : ∀ b, s'.heap.objs.size ≤ b → s.heap.get? b = Option.none := fun b hb => by
      cases hq : s.heap.get? b with
      | none => rfl
      | some o' => exact absurd (Heap.lt_size (kp_heap k _ _ hq)) (Nat.not_lt.mpr hb)
    refine hQ _ (s'.heap.objs.size + 1) _ _ _ _ _ (kp_trans k ⟨h', _, rfl, hk⟩) ⟨by rw [show ((List.range ts.length).map fun (i : Nat) => ((PV.int (i : Nat), PV.val (.ref (ts.getD i 0))) : PV × PV)).length = ts.length by simp]; exact W, ?_, ?_, ?_, ?_, ?_, ?_, ?_⟩
    · rintro i vs ⟨hi, t, y, hy, rfl⟩
      refine ⟨.int (i : Nat), .val (.ref (ts.getD i 0)), _, _, by simp [hi], rfl, rep_int, ?_⟩
      simp only [Rep]
      have hi' : i < ts.length := hi
      have : (ts.map Value.ref).toArray[i]? = some (.ref ts[i]) := by simp [hi']
      rw [this] at hy; cases hy
      rw [List.getD_eq_getElem?_getD, List.getElem?_eq_getElem hi']; rfl
    · exact ⟨⟨_, he'⟩, hit', hl⟩
    · intro b hb
      simp only [List.mem_cons, List.not_mem_nil, or_false] at hb
      rcases hb with rfl | rfl
      · exact hfr _ (by omega)
      · exact hfr _ (Nat.le_refl _)
    · rintro i h ⟨⟨old, e0⟩, ⟨o1, e1, _, d1⟩, ⟨o2, e2, _, n2, d2⟩⟩ b hb
      simp only [List.mem_cons, List.not_mem_nil, or_false] at hb
      rcases hb with rfl | rfl | rfl
      · exact ⟨_, e0, (fun _ _ e => by cases e), (fun _ e => by cases e)⟩
      · exact ⟨o1, e1, (fun _ _ e => by rw [d1] at e; cases e), (fun _ e => by rw [d1] at e; cases e)⟩
      · exact ⟨o2, e2, (fun _ _ e => by rw [d2] at e; cases e), (fun _ e => by rw [d2] at e; cases e)⟩
    · rintro i h ⟨⟨old, e0⟩, ⟨o1, e1, _, d1⟩, _⟩ b hb o e vs n d
      simp only [List.mem_cons, List.not_mem_nil, or_false] at hb
      rcases hb with rfl | rfl
      · rw [e0] at e; cases e; cases d
      · rw [e1] at e; cases e; rw [d1] at d; cases d
    · rintro i T h ⟨⟨y, e0⟩, ⟨⟨o1, e1, _, d1⟩, _⟩, _, _⟩ b hb
      simp only [List.mem_cons, List.not_mem_nil, or_false] at hb
      rcases hb with rfl | rfl
      · exact ⟨_, e0, (fun _ _ e => by cases e), (fun _ e => by cases e), (fun _ _ e => by cases e)⟩
      · exact ⟨o1, e1, (fun _ _ e => by rw [d1] at e; cases e), (fun _ e => by rw [d1] at e; cases e), (fun _ _ e => by rw [d1] at e; cases e)⟩
    · intro b hb hm
      obtain ⟨o', e'⟩ := hds s F b hm
      simp only [List.mem_cons, List.not_mem_nil, or_false] at hb
      rcases hb with rfl | rfl | rfl
      · rw [hfr _ (by omega)] at e'; cases e'.1
      · rw [hfr _ (Nat.le_refl _)] at e'; cases e'.1
      · rw [ht] at e'; cases e'.2) h1
end
end
section
noncomputable def fmT : List (Addr × List Addr × List (Nat × Nat)) :=
  [(36, [29, 30, 31, 32, 33, 34, 35], [(40960, 108), (49152, 115), (32768, 45), (24576, 98), (16384, 100), (8192, 99), (4096, 112)]),
   (38, [37], [(256, 114)]), (40, [39], [(128, 119)]), (44, [41, 42, 43], [(2112, 115), (2048, 83), (64, 120)]),
   (46, [45], [(32, 114)]), (48, [47], [(16, 119)]), (52, [49, 50, 51], [(1032, 115), (1024, 83), (8, 120)]),
   (54, [53], [(4, 114)]), (56, [55], [(2, 119)]), (60, [57, 58, 59], [(513, 116), (512, 84), (1, 120)])]
noncomputable def fmA : List Addr := fmT.map (·.1)
noncomputable def bsAt (i : Nat) : List (Nat × Nat) := (fmT.getD i (0, [], [])).2.2
noncomputable def psAt (i : Nat) : List Addr := (fmT.getD i (0, [], [])).2.1
noncomputable def pairOk (o : Option Obj) (b c : Nat) : Bool := match o with
  | some ⟨.type "tuple", Option.none, .seq vs _, sl⟩ => (match vs.toList with | [.int i _, .str x _] => i == (b : Int) && x.cps.toList == [c] | _ => false) && sl.toList.isEmpty
  | _ => false
theorem pairOk_spec {o : Option Obj} {b c : Nat} (h : pairOk o b c = true) : ∃ n t u, o = some { cls := .type "tuple", data := .seq #[.int (b : Nat) t, .str (S [c]) u] n } := by
  unfold pairOk at h
  split at h
  · rename_i vs n sl
    rw [Bool.and_eq_true] at h
    obtain ⟨h, h2⟩ := h
    split at h
    · rename_i i t x u e
      rw [Bool.and_eq_true] at h
      have e1 : i = (b : Int) := by simpa using h.1
      have e2 : x.cps.toList = [c] := by simpa using h.2
      have e3 : vs = #[.int i t, .str x u] := by rw [← Array.toArray_toList (xs := vs), e]
      have e4 : x = S [c] := by
        cases x with | mk cps => cases cps with | mk l => simp at e2; subst e2; rfl
      have e5 : sl = #[] := by
        cases sl with | mk l => simp at h2; subst h2; rfl
      subst e1 e3 e4 e5
      exact ⟨n, t, u, rfl⟩
    · cases h
  · cases h
noncomputable def tupOk (o : Option Obj) (ps : List Addr) : Bool := match o with
  | some ⟨.type "tuple", Option.none, .seq vs _, sl⟩ => vs.toList == ps.map Value.ref && sl.toList.isEmpty
  | _ => false
theorem tupOk_spec {o : Option Obj} {ps : List Addr} (h : tupOk o ps = true) : ∃ n, o = some { cls := .type "tuple", data := .seq (ps.map Value.ref).toArray n } := by
  unfold tupOk at h
  split at h
  · rename_i vs n sl
    rw [Bool.and_eq_true] at h
    have e1 : vs = (ps.map Value.ref).toArray := by rw [← Array.toArray_toList (xs := vs), eq_of_beq h.1]
    have e5 : sl = #[] := by
      cases sl with | mk l => simp at h; simp [h.2]
    subst e1 e5
    exact ⟨n, rfl⟩
  · cases h
noncomputable def fmOk (K : Frag) (t : Addr × List Addr × List (Nat × Nat)) : Bool := (t.2.1.length == t.2.2.length) && tupOk (K.lookup t.1) t.2.1 && (t.2.1.zip t.2.2).all fun q => pairOk (K.lookup q.1) q.2.1 q.2.2
set_option maxHeartbeats 0 in
theorem fm_ok (P : Params) : (fmT.all (fmOk (KXF P)) && tupOk ((KXF P).lookup 61) fmA) = true := by kernel_rfl
theorem fm_tab (w : World) (i : Nat) (hi : i < 10) : FmTab w (fmA.getD i 0) (psAt i) (bsAt i) := by
  have h := List.all_eq_true.mp (Bool.and_eq_true_iff.mp (fm_ok w.params)).1
  have hlen : i < fmT.length := hi
  have h1 := h _ (List.getElem_mem hlen)
  unfold fmOk at h1
  rw [Bool.and_eq_true, Bool.and_eq_true] at h1
  obtain ⟨⟨h1, h2⟩, h3⟩ := h1
  have ea : fmA.getD i 0 = fmT[i].1 := by unfold fmA; rw [List.getD_eq_getElem?_getD, List.getElem?_map, List.getElem?_eq_getElem hlen]; rfl
  have eb : psAt i = fmT[i].2.1 := by unfold psAt; rw [List.getD_eq_getElem?_getD, List.getElem?_eq_getElem hlen]; rfl
  have ec : bsAt i = fmT[i].2.2 := by unfold bsAt; rw [List.getD_eq_getElem?_getD, List.getElem?_eq_getElem hlen]; rfl
  rw [ea, eb, ec]
  refine ⟨by simpa using h1, tupOk_spec h2, fun k p b c e1 e2 => ?_⟩
  have := List.all_eq_true.mp h3 (p, (b, c)) (List.mem_of_getElem? (i := k) (by rw [List.getElem?_zip_eq_some]; exact ⟨e1, e2⟩))
  exact pairOk_spec this
theorem bitAnd_nat (a b : Nat) : Builtin.bitAnd (a : Int) (b : Int) = ((a &&& b : Nat) : Int) := by
  unfold Builtin.bitAnd
  rw [decide_eq_true (by omega : (0 : Int) ≤ a), decide_eq_true (by omega : (0 : Int) ≤ b)]
  simp
noncomputable def tst (i m b : Nat) : Bool := if i = 0 then (m &&& 61440) == b else (m &&& b) == b
noncomputable def chs (i m : Nat) : Nat := match (bsAt i).find? (fun p => tst i m p.1) with
  | some p => p.2
  | Option.none => if i = 0 then 63 else 45
noncomputable def fmL (m : Nat) : List Nat := (List.range 10).map fun i => chs i m
theorem find_at {α : Type} {p : α → Bool} : ∀ {l : List α} {j : Nat} {x : α}, l[j]? = some x → p x = true → (∀ k, k < j → ∀ y, l[k]? = some y → p y = false) → l.find? p = some x
  | [], j, x, e, _, _ => by simp at e
  | a :: l, 0, x, e, h, _ => by simp at e; subst e; simp [h]
  | a :: l, j + 1, x, e, h, hk => by
    have h0 := hk 0 (by omega) a rfl
    rw [List.find?_cons, h0]
    exact find_at (l := l) (j := j) (by simpa using e) h fun k hkj y ey => hk (k + 1) (by omega) y (by simpa using ey)
theorem find_no {α : Type} {p : α → Bool} {l : List α} (hk : ∀ k, k < l.length → ∀ y, l[k]? = some y → p y = false) : l.find? p = Option.none := by
  rw [List.find?_eq_none]
  intro x hx
  obtain ⟨k, hkl, e⟩ := List.getElem_of_mem hx
  have := hk k hkl x (by rw [List.getElem?_eq_getElem hkl, e])
  simp [this]
theorem g_table {P : Params} : nsFind (esMain P) (Str.ofString "_filemode_table") = some (.ref 61) := by kernel_rfl
theorem g_SIFMT {P : Params} : nsFind (esMain P) (Str.ofString "S_IFMT") = some (.ref 28) := by kernel_rfl
theorem fn_SIFMT (w : World) : Fn w 28 := .mk (Mine.suf.o_20 w.params) (by kernel_rfl) rfl
theorem b_enum {P : Params} : nsFind (esMain P) (Str.ofString "enumerate") = none ∧ nsFind (esBui P) (Str.ofString "enumerate") = some (.type "enumerate") := ⟨by kernel_rfl, by kernel_rfl⟩
end
section
noncomputable def fmP (m i : Nat) : List (List Nat) := (List.range i).map fun j => [chs j m]
theorem own1_y {d : Addr} {l : List PV} {P : Prop} : ∀ h h' : Heap, (Own1 d l h ∧ P) → (∀ b ∈ [d], h'.get? b = h.get? b) → (Own1 d l h' ∧ P) := fun h h' ⟨⟨us, ⟨n, e⟩, q⟩, hp⟩ k => ⟨⟨us, ⟨n, (k d (by simp)).trans e⟩, q⟩, hp⟩
theorem own1_ex {d : Addr} {l : List PV} {P : Prop} : ∀ h : Heap, (Own1 d l h ∧ P) → ∀ b ∈ [d], ∃ o, h.get? b = some o := fun h ⟨⟨us, ⟨n, e⟩, q⟩, hp⟩ b hb => by
  simp only [List.mem_singleton] at hb; subst hb; exact ⟨_, e⟩
theorem SX.brk {w : World} {A : Around} {env : Env} {I : Inv} {ss : List Stmt} {pos : Pos} {R : Flow → Shared → Prop} (h : ∀ s, I.P s → R .brk s) : SX w A env I (.Break pos :: ss) R := fun s F => wpAny_execs_cons (wpAny_Break (h s F))
theorem off_const {env : Env} {ds : List Addr} {P : Prop} : Off env ds (fun _ => P) := ⟨[], by simp, by simp, fun _ _ p _ => p⟩
theorem fm_fin {w : World} {s s3 : Shared} {env : Env} {d : Addr} {m i c : Nat} {a x : PV} {Zb : Heap → Prop} (hS : PVs (fmP m (i + 1)) = PVs (fmP m i) ++ [.str (S [chs i m])]) (hc : c = chs i m)
    (G : FIP w s env [(Str.ofString "table", a), (Str.ofString "index", x), (Str.ofString "perm", .val (.ref d)), (Str.ofString "mode", .int (m : Nat))] [] (fun h => Zb h ∧ Own1 d (PVs (fmP m i) ++ [.str (S [c])]) h) s3) :
    FIP w s env [(Str.ofString "perm", .val (.ref d)), (Str.ofString "mode", .int (m : Nat))] [] (fun h => Zb h ∧ Own1 d (PVs (fmP m (i + 1))) h) s3 := by
  subst hc
  rw [hS]
  refine G.weaken fun p hp => ?_
  simp only [List.mem_cons, List.not_mem_nil, or_false] at hp
  rcases hp with rfl | rfl <;> walk_at "lk"
theorem fm_brk {w : World} {s s3 : Shared} {env : Env} {d : Addr} {m i c : Nat} {a x u v : PV} {Zb : Heap → Prop} (hS : PVs (fmP m (i + 1)) = PVs (fmP m i) ++ [.str (S [chs i m])]) (hc : c = chs i m)
    (G : FIP w s env [(Str.ofString "char", u), (Str.ofString "bit", v), (Str.ofString "table", a), (Str.ofString "index", x), (Str.ofString "perm", .val (.ref d)), (Str.ofString "mode", .int (m : Nat))] [] (fun h => Zb h ∧ Own1 d (PVs (fmP m i) ++ [.str (S [c])]) h) s3) :
    FIP w s env [(Str.ofString "table", a), (Str.ofString "index", x), (Str.ofString "perm", .val (.ref d)), (Str.ofString "mode", .int (m : Nat))] [] (fun h => Zb h ∧ (Own1 d (PVs (fmP m (i + 1))) h ∧ True)) s3 := by
  subst hc
  rw [hS]
  refine (FIP.restab G ⟨(FIP.z G).1, (FIP.z G).2, trivial⟩).weaken fun p hp => ?_
  simp only [List.mem_cons, List.not_mem_nil, or_false] at hp
  rcases hp with rfl | rfl | rfl | rfl <;> walk_at "lk"
theorem fm_next {w : World} {s s3 : Shared} {env : Env} {d : Addr} {m : Nat} {a x u v : PV} {l : List PV} {P : Prop} {Zb : Heap → Prop}
    (G : FIP w s env [(Str.ofString "char", u), (Str.ofString "bit", v), (Str.ofString "table", a), (Str.ofString "index", x), (Str.ofString "perm", .val (.ref d)), (Str.ofString "mode", .int (m : Nat))] [] (fun h => Zb h ∧ Own1 d l h) s3) (hP : P) :
    FIP w s env [(Str.ofString "table", a), (Str.ofString "index", x), (Str.ofString "perm", .val (.ref d)), (Str.ofString "mode", .int (m : Nat))] [] (fun h => Zb h ∧ (Own1 d l h ∧ P)) s3 := by
  refine (FIP.restab G ⟨(FIP.z G).1, (FIP.z G).2, hP⟩).weaken fun p hp => ?_
  simp only [List.mem_cons, List.not_mem_nil, or_false] at hp
  rcases hp with rfl | rfl | rfl | rfl <;> walk_at "lk"
set_option maxHeartbeats 8000000 in
theorem pc_filemode (w : World) (m : Nat) (hm : m < 65536) : PC w 3 68 [.int (m : Int)] (.str (S (fmL m))) := by
  have hd : (Mine.suf.o_63 w.params).data = .func _ := rfl
  refine PC.body [Str.ofString "mode"] [(Str.ofString "mode", .int m)] rfl (by kernel_rfl) hd (by kernel_rfl) rfl rfl rfl (fun vs h => ?_) ?_ rfl rfl rfl (fun L => Stable.tt) fun A s L hA => ?_
  · obtain ⟨v, rfl⟩ := len1 h; rfl
  · decide +kernel
  have hA1 : Lv 1 A := hA.less (by decide)
  refine SX.newlist (by kernel_rfl) (by kernel_rfl) (by rfl) (nd_of (by decide +kernel)) fun d hz3 hod hoff hd0 => ?_
  have hkx : ∀ (s' : Shared), Keeps s s' → ∀ {o : Obj}, s'.heap.get? d = some o → True := fun _ _ _ _ => trivial
  refine SX.for2 (items := (List.range 10).map fun (i : Nat) => (.int (i : Nat), .val (.ref (fmA.getD i 0)))) [d] (fun i => [(Str.ofString "perm", .val (.ref d)), (Str.ofString "mode", .int m)])
    (fun _ => []) (fun i => Own1 d (PVs (fmP m i))) (fun _ _ => False) (fun _ => True) hA.1 hoff ?y1 ?y2 (by simpa using hod) (nd_of (by decide +kernel)) (fun i => Stable.tt.and (Own1.off hod)) rfl ?it ?fl (by kernel_rfl) (by kernel_rfl) (by kernel_rfl) ?turn ?els ?brk
  case y1 =>
    rintro i h h' ⟨us, ⟨n, e⟩, q⟩ k
    exact ⟨us, ⟨n, (k d (by simp)).trans e⟩, q⟩
  case y2 =>
    rintro i h ⟨us, ⟨n, e⟩, q⟩ b hb
    simp only [List.mem_singleton] at hb; subst hb
    exact ⟨_, e⟩
  case it =>
    refine ItVU.enumT (ts := fmA) hA.1 FI.has (EV.bui FI.has b_enum.1 b_enum.2 (by kernel_rfl) (by kernel_rfl) (by kernel_rfl) (by kernel_rfl) (by kernel_rfl)) (EV.glob FI.has g_table (by kernel_rfl) (by kernel_rfl) (by kernel_rfl) (by kernel_rfl)) (tupOk_spec (Bool.and_eq_true_iff.mp (fm_ok w.params)).2) fun s' F d' hd' => ?_
    simp only [List.mem_singleton] at hd'; subst hd'
    obtain ⟨us, ⟨n, e⟩, q⟩ := (FIP.z F).2
    refine ⟨_, e, ?_⟩
    cases hq : (KXF w.params).lookup d' with
    | none => rfl
    | some o => have := (FIP.x F).1 _ _ hq; rw [hd0] at this; cases this
  case fl =>
    intro p hp
    obtain ⟨i, _, rfl⟩ := List.mem_map.mp hp
    exact ⟨rfl, rfl⟩
  case brk => exact fun i s hi F => F.z.2.elim
  case els =>
    intro s' F
    refine SX.then_nil (I := FI w s _ [(Str.ofString "perm", .val (.ref d)), (Str.ofString "mode", .int m)] _ _ (Stable.tt.and (Own1.off hod))) (SX.ret (pv := .str (S (fmL m))) ?_ fun s' v F r => ⟨v, rfl, r, FIP.kp F⟩) s' F
    refine EV.as (EV.join (x := S []) (ys := (fmP m 10).map S) (EV.strS (by decide +kernel)) (EV.as (EV.weak (EV.locO (a := d) (l := PVs (fmP m 10)) (by walk_at "lk") (fun h z => z.2) (by kernel_rfl) (by kernel_rfl) (by kernel_rfl))) (congrArg PV.list (by rw [List.map_map]; rfl))) ?_) (congrArg PV.str ((join_S (fmP m 10)).trans (congrArg S rfl)))
    exact Nat.le_trans (Nat.le_of_eq (show (((fmP m 10).map S).map (·.length)).sum + ((fmP m 10).map S).length * (S []).length = 10 from rfl)) (by decide)
  case turn =>
    intro i p q Zb hzb hp hob hzx
    obtain ⟨hi, rfl, rfl⟩ : i < 10 ∧ p = .int (i : Nat) ∧ q = .val (.ref (fmA.getD i 0)) := by
      rw [List.getElem?_map] at hp
      obtain ⟨j, hj, e⟩ := Option.map_eq_some_iff.mp hp
      have := List.getElem?_eq_some_iff.mp hj
      obtain ⟨h1, h2⟩ := this
      simp at h1 h2
      subst h2
      cases e
      exact ⟨h1, rfl, rfl⟩
    have T := fm_tab w i hi
    have hfmS : PVs (fmP m (i + 1)) = PVs (fmP m i) ++ [.str (S [chs i m])] := by unfold fmP; rw [List.range_succ]; simp
    have hflen : (PVs (fmP m i)).length ≤ 1000 := by simp [fmP]; omega
    have hOb : ∀ (l : List PV) (P : Prop), Stable _ fun h => Zb h ∧ (Own1 d l h ∧ P) := fun l P => (hob.less (by simp)).and ((Own1.off hod).and off_const)
    refine fun s1 F1 => (SX.for2 (w := w) (A := A) (s0 := s) (ss := []) (items := (bsAt i).map fun p => (.int (p.1 : Nat), .str (S [p.2]))) [d]
      (fun _ => [(Str.ofString "table", .val (.ref (fmA.getD i 0))), (Str.ofString "index", .int (i : Nat)), (Str.ofString "perm", .val (.ref d)), (Str.ofString "mode", .int m)])
      (fun _ => [(Str.ofString "table", .val (.ref (fmA.getD i 0))), (Str.ofString "index", .int (i : Nat)), (Str.ofString "perm", .val (.ref d)), (Str.ofString "mode", .int m)])
      (fun j h => Own1 d (PVs (fmP m i)) h ∧ ∀ k, k < j → ∀ y, (bsAt i)[k]? = some y → tst i m y.1 = false) (fun _ h => Own1 d (PVs (fmP m (i + 1))) h ∧ True) Zb hA.1 hob (fun i => own1_y) (fun i => own1_ex) (by simpa using hod) (nd_of (by decide +kernel)) (fun j => hOb _ _) rfl ?it2 ?fl2 (by kernel_rfl) (by kernel_rfl) (by kernel_rfl) ?turn2 ?els2 ?brk2) s1 (FIP.restab F1 ⟨(FIP.z F1).1, (FIP.z F1).2, fun k hk => absurd hk (Nat.not_lt_zero _)⟩)
    case it2 =>
      refine ItVU.table hA.1 FI.has (by walk_at "ev") T fun s' F d' hd' => ?_
      simp only [List.mem_singleton] at hd'; subst hd'
      obtain ⟨us, ⟨n, e⟩, q⟩ := (FIP.z F).2.1
      refine ⟨_, e, ?_⟩
      cases hq : (KXF w.params).lookup d' with
      | none => rfl
      | some o => have := (FIP.x F).1 _ _ hq; rw [hd0] at this; cases this
    case fl2 =>
      intro p hp
      obtain ⟨q, _, rfl⟩ := List.mem_map.mp hp
      exact ⟨rfl, rfl⟩
    case brk2 =>
      intro j s2 hj F
      refine wpAny_execs_nil ?_
      refine (FIP.restab F ⟨(FIP.z F).1, (FIP.z F).2.1⟩).weaken fun p hp => ?_
      simp only [List.mem_cons, List.not_mem_nil, or_false] at hp
      rcases hp with rfl | rfl <;> walk_at "lk"
    case els2 =>
      intro s2 F
      rw [List.length_map] at F
      have hno : (bsAt i).find? (fun p => tst i m p.1) = Option.none := find_no (FIP.z F).2.2
      have hc : chs i m = if i = 0 then 63 else 45 := by unfold chs; rw [hno]
      have F' := FIP.restab (Y := fun h => Zb h ∧ Own1 d (PVs (fmP m i)) h) F ⟨(FIP.z F).1, (FIP.z F).2.1⟩
      have hflat : ∀ q ∈ [(Str.ofString "table", PV.val (.ref (fmA.getD i 0))), (Str.ofString "index", .int (i : Nat)), (Str.ofString "perm", .val (.ref d)), (Str.ofString "mode", .int m)], Flat q.2 = true := by
        intro q hq
        simp only [List.mem_cons, List.not_mem_nil, or_false] at hq
        rcases hq with rfl | rfl | rfl | rfl <;> rfl
      refine SX.if_ (ss := []) (I := FI w s _ [(Str.ofString "table", .val (.ref (fmA.getD i 0))), (Str.ofString "index", .int (i : Nat)), (Str.ofString "perm", .val (.ref d)), (Str.ofString "mode", .int m)] [] (fun h => Zb h ∧ Own1 d (PVs (fmP m i)) h) hzb) (b := ((i : Nat) : Int) == 0) (by walk_at "eb") (fun h => ?_) (fun h => ?_) s2 F'
      · have h0 : i = 0 := by simpa using h
        exact SX.append (d := d) (p := .str (S [63])) (by walk_at "lk") hod hob hd0 hflat (by simp) rfl (EV.strS (by decide +kernel)) hflen (by kernel_rfl) (by kernel_rfl) (by kernel_rfl) (nd_of (by decide +kernel)) fun hz' => SX.nil fun s' F => wpAny_execs_nil (wpAny_execs_nil (fm_fin hfmS (by rw [hc, if_pos h0]) F))
      · have h0 : ¬ i = 0 := by simpa using h
        exact SX.append (d := d) (p := .str (S [45])) (by walk_at "lk") hod hob hd0 hflat (by simp) rfl (EV.strS (by decide +kernel)) hflen (by kernel_rfl) (by kernel_rfl) (by kernel_rfl) (nd_of (by decide +kernel)) fun hz' => SX.nil fun s' F => wpAny_execs_nil (wpAny_execs_nil (fm_fin hfmS (by rw [hc, if_neg h0]) F))
    case turn2 =>
      intro j p q Zc hzc hp2 hoc hzx2 s2 F
      obtain ⟨b, c, hbc, rfl, rfl⟩ : ∃ b c, (bsAt i)[j]? = some (b, c) ∧ p = .int (b : Nat) ∧ q = .str (S [c]) := by
        rw [List.getElem?_map] at hp2
        obtain ⟨⟨b, c⟩, hj, e⟩ := Option.map_eq_some_iff.mp hp2
        cases e
        exact ⟨b, c, hj, rfl, rfl⟩
      have hpre := (FIP.z F).2.2
      have F' := FIP.restab (Y := fun h => Zc h ∧ Own1 d (PVs (fmP m i)) h) F ⟨(FIP.z F).1, (FIP.z F).2.1⟩
      have hyes : tst i m b = true → c = chs i m := fun ht => by
        unfold chs
        rw [find_at (p := fun p => tst i m p.1) hbc ht fun k hk y hy => hpre k hk y hy]
      have hnon : tst i m b = false → ∀ k, k < j + 1 → ∀ y, (bsAt i)[k]? = some y → tst i m y.1 = false := fun ht k hk y hy => by
        by_cases hkj : k < j
        · exact hpre k hkj y hy
        · have : k = j := by omega
          subst this
          rw [hbc] at hy; cases hy; exact ht
      have hflat : ∀ q ∈ [(Str.ofString "char", PV.str (S [c])), (Str.ofString "bit", .int (b : Nat)), (Str.ofString "table", .val (.ref (fmA.getD i 0))), (Str.ofString "index", .int (i : Nat)), (Str.ofString "perm", .val (.ref d)), (Str.ofString "mode", .int m)], Flat q.2 = true := by
        intro q hq
        simp only [List.mem_cons, List.not_mem_nil, or_false] at hq
        rcases hq with rfl | rfl | rfl | rfl | rfl | rfl <;> rfl
      refine SX.if_ (ss := []) (I := FI w s _ [(Str.ofString "char", PV.str (S [c])), (Str.ofString "bit", .int (b : Nat)), (Str.ofString "table", .val (.ref (fmA.getD i 0))), (Str.ofString "index", .int (i : Nat)), (Str.ofString "perm", .val (.ref d)), (Str.ofString "mode", .int m)] [] (fun h => Zc h ∧ Own1 d (PVs (fmP m i)) h) ((hoc.less (by simp)).and (Own1.off hod))) (b := ((i : Nat) : Int) == 0) (by walk_at "eb") (fun h => ?_) (fun h => ?_) s2 F'
      · have h0 : i = 0 := by simpa using h
        have ht : tst i m b = (Builtin.bitAnd (m : Int) 61440 == (b : Int)) := by
          unfold tst
          rw [if_pos h0, show (61440 : Int) = ((61440 : Nat) : Int) from rfl, bitAnd_nat, Bool.eq_iff_iff]
          simp only [beq_iff_eq]; omega
        refine SX.if_ (ss := []) (b := Builtin.bitAnd (m : Int) 61440 == (b : Int)) (EB.cmp (EV.fn (pc_S_IFMT w 0 m) (fn_SIFMT w) hA1 (EV.glob FI.has g_SIFMT (by kernel_rfl) (by kernel_rfl) (by kernel_rfl) (by kernel_rfl)) (EVs.cons (by walk_at "ev") EVs.nil rfl) FI.has) (by walk_at "ev") CmpV.eq_int) (fun h2 => ?_) (fun h2 => ?_)
        · exact SX.append (d := d) (p := .str (S [c])) (by walk_at "lk") hod hoc hd0 hflat (by simp) rfl (by walk_at "ev") hflen (by kernel_rfl) (by kernel_rfl) (by kernel_rfl) (nd_of (by decide +kernel)) fun hz' => SX.brk fun s' F => fm_brk hfmS (hyes (ht.trans h2)) F
        · exact SX.then_nil (SX.then_nil (SX.nil fun s' F => fm_next F (hnon (ht.trans h2))))
      · have h0 : ¬ i = 0 := by simpa using h
        have ht : tst i m b = (Builtin.bitAnd (m : Int) (b : Int) == (b : Int)) := by
          unfold tst
          rw [if_neg h0, bitAnd_nat, Bool.eq_iff_iff]
          simp only [beq_iff_eq]; omega
        refine SX.if_ (ss := []) (b := Builtin.bitAnd (m : Int) (b : Int) == (b : Int)) (EB.cmp (EV.binop (by walk_at "ev") (by walk_at "ev") OpV.and_int) (by walk_at "ev") CmpV.eq_int) (fun h2 => ?_) (fun h2 => ?_)
        · exact SX.append (d := d) (p := .str (S [c])) (by walk_at "lk") hod hoc hd0 hflat (by simp) rfl (by walk_at "ev") hflen (by kernel_rfl) (by kernel_rfl) (by kernel_rfl) (nd_of (by decide +kernel)) fun hz' => SX.brk fun s' F => fm_brk hfmS (hyes (ht.trans h2)) F
        · exact SX.then_nil (SX.then_nil (SX.nil fun s' F => fm_next F (hnon (ht.trans h2))))
end
section
theorem and_low (m b : Nat) (hb : b < 4096) : m &&& b = (m % 4096) &&& b := by
  have h1 := Nat.and_div_two_pow (a := m) (b := b) (n := 12)
  have h2 := Nat.and_mod_two_pow (a := m) (b := b) (n := 12)
  have hb1 : b / 2 ^ 12 = 0 := Nat.div_eq_of_lt hb
  have hb2 : b % 2 ^ 12 = b := Nat.mod_eq_of_lt hb
  rw [hb1, Nat.and_zero] at h1
  rw [hb2] at h2
  have : m &&& b = (m &&& b) % 2 ^ 12 := by omega
  rw [this, h2]
theorem and_high (m : Nat) : m &&& 61440 = 4096 * (m / 4096 &&& 15) := by
  have h1 := Nat.and_div_two_pow (a := m) (b := 61440) (n := 12)
  have h2 := Nat.and_mod_two_pow (a := m) (b := 61440) (n := 12)
  have h3 : (61440 : Nat) % 2 ^ 12 = 0 := by decide
  rw [h3, Nat.and_zero] at h2
  have h4 : (61440 : Nat) / 2 ^ 12 = 15 := by decide
  rw [h4] at h1
  rw [show (2 : Nat) ^ 12 = 4096 from by decide] at h1 h2
  omega
noncomputable def chR (i r : Nat) : Nat := match (bsAt i).find? (fun p => (r &&& p.1) == p.1) with
  | some p => p.2
  | none => 45
theorem chs_low (i m : Nat) (h0 : i ≠ 0) (hi : i < 10) : chs i m = chR i (m % 4096) := by
  have hb : ∀ i < 10, i ≠ 0 → ∀ p ∈ bsAt i, p.1 < 4096 := by decide +kernel
  have : ∀ l : List (Nat × Nat), (∀ p ∈ l, p.1 < 4096) → l.find? (fun p => tst i m p.1) = l.find? (fun p => ((m % 4096) &&& p.1) == p.1) := by
    intro l hl
    induction l with
    | nil => rfl
    | cons p l ih =>
      have e : tst i m p.1 = (((m % 4096) &&& p.1) == p.1) := by unfold tst; rw [if_neg h0, and_low m p.1 (hl p (.head _))]
      simp only [List.find?_cons, e]
      rw [ih fun q hq => hl q (.tail _ hq)]
  unfold chs chR
  rw [this _ (hb i hi h0)]
  simp only [if_neg h0]
  all_goals rfl
noncomputable def triR (r : Nat) : List Nat := tri r 6 ++ tri r 3 ++ tri r 0
theorem fig_low (m : Nat) : fig (m % 4096) 6 = fig m 6 ∧ fig (m % 4096) 3 = fig m 3 ∧ fig (m % 4096) 0 = fig m 0 := by
  unfold fig
  refine ⟨?_, ?_, ?_⟩
  · rw [show (4096 : Nat) = 2 ^ 6 * 64 from rfl, Nat.mod_mul_right_div_self, Nat.mod_mod_of_dvd _ (by decide : 8 ∣ 64)]
  · rw [show (4096 : Nat) = 2 ^ 3 * 512 from rfl, Nat.mod_mul_right_div_self, Nat.mod_mod_of_dvd _ (by decide : 8 ∣ 512)]
  · rw [show (4096 : Nat) = 2 ^ 0 * 4096 from rfl, Nat.mod_mul_right_div_self, Nat.mod_mod_of_dvd _ (by decide : 8 ∣ 4096)]
theorem sp_low (m : Nat) : sp (m % 4096) 6 = sp m 6 ∧ sp (m % 4096) 3 = sp m 3 ∧ sp (m % 4096) 0 = sp m 0 := by
  unfold sp
  refine ⟨?_, ?_, ?_⟩
  · rw [show (4096 : Nat) = 2 ^ (9 + 6 / 3) * 2 from rfl, Nat.mod_mul_right_div_self, Nat.mod_mod_of_dvd _ (by decide : 2 ∣ 2)]
  · rw [show (4096 : Nat) = 2 ^ (9 + 3 / 3) * 4 from rfl, Nat.mod_mul_right_div_self, Nat.mod_mod_of_dvd _ (by decide : 2 ∣ 4)]
  · rw [show (4096 : Nat) = 2 ^ (9 + 0 / 3) * 8 from rfl, Nat.mod_mul_right_div_self, Nat.mod_mod_of_dvd _ (by decide : 2 ∣ 8)]
theorem tri_low (m : Nat) : tri m 6 ++ tri m 3 ++ tri m 0 = triR (m % 4096) := by
  obtain ⟨f6, f3, f0⟩ := fig_low m
  obtain ⟨s6, s3, s0⟩ := sp_low m
  unfold triR tri
  rw [f6, f3, f0, s6, s3, s0]
theorem beqN (a b : Nat) : (a == b) = Nat.beq a b := by rw [Bool.eq_iff_iff, beq_iff_eq, Nat.beq_eq]
noncomputable def pick (r : Nat) : List (Nat × Nat) → Nat
  | [] => 45
  | p :: l => bif Nat.beq (Nat.land r p.1) p.1 then p.2 else pick r l
theorem pick_find (r : Nat) : ∀ l : List (Nat × Nat), (match l.find? (fun p => (r &&& p.1) == p.1) with | some p => p.2 | none => 45) = pick r l
  | [] => rfl
  | p :: l => by
    have e : ((r &&& p.1) == p.1) = Nat.beq (Nat.land r p.1) p.1 := beqN _ _
    unfold pick
    rw [List.find?_cons, e]
    cases Nat.beq (Nat.land r p.1) p.1
    · exact pick_find r l
    · rfl
noncomputable def bs9 : List (List (Nat × Nat)) := [[(256, 114)], [(128, 119)], [(2112, 115), (2048, 83), (64, 120)], [(32, 114)], [(16, 119)], [(1032, 115), (1024, 83), (8, 120)], [(4, 114)], [(2, 119)], [(513, 116), (512, 84), (1, 120)]]
theorem bs9_eq : [bsAt 1, bsAt 2, bsAt 3, bsAt 4, bsAt 5, bsAt 6, bsAt 7, bsAt 8, bsAt 9] = bs9 := by decide +kernel
noncomputable def triB (k f : Nat) (s : Bool) : List Nat :=
  [bif Nat.ble 4 f then 114 else 45, bif Nat.beq (f / 2 % 2) 1 then 119 else 45,
    bif s then (bif Nat.blt 0 k then (bif Nat.beq (f % 2) 1 then 115 else 83) else (bif Nat.beq (f % 2) 1 then 116 else 84)) else (bif Nat.beq (f % 2) 1 then 120 else 45)]
theorem tri_B {r k : Nat} (hk : k = 6 ∨ k = 3 ∨ k = 0) : tri r k = triB k (fig r k) (sp r k) := by
  have h : ∀ k ∈ [6, 3, 0], ∀ f < 8, ∀ s : Bool, [if f > 3 then 114 else 45, if f / 2 % 2 = 1 then 119 else 45,
    if s then (if k > 0 then (if f % 2 = 1 then 115 else 83) else (if f % 2 = 1 then 116 else 84)) else (if f % 2 = 1 then 120 else 45)] = triB k f s := by decide +kernel
  exact h k (by simpa using hk) (fig r k) (Nat.mod_lt _ (by decide)) (sp r k)
noncomputable def lB : List Nat → List Nat → Bool
  | [], [] => true
  | a :: u, b :: v => Nat.beq a b && lB u v
  | _, _ => false
theorem lB_eq : ∀ u v, lB u v = true → u = v
  | [], [], _ => rfl
  | [], _ :: _, h => by simp [lB] at h
  | _ :: _, [], h => by simp [lB] at h
  | a :: u, b :: v, h => by
    unfold lB at h
    rw [Bool.and_eq_true] at h
    rw [Nat.eq_of_beq_eq_true h.1, lB_eq u v h.2]
noncomputable def allB (f : Nat → Bool) : Nat → Bool
  | 0 => true
  | n + 1 => f n && allB f n
theorem allB_at {f : Nat → Bool} : ∀ {n : Nat}, allB f n = true → ∀ i, i < n → f i = true
  | n + 1, h, i, hi => by
    unfold allB at h
    rw [Bool.and_eq_true] at h
    by_cases e : i = n
    · rw [e]; exact h.1
    · exact allB_at h.2 i (by omega)
noncomputable def chkB (r : Nat) : Bool := Nat.beq (bif Nat.beq (Nat.land r 256) 256 then 114 else 45) (bif Nat.ble 4 (r / 64 % 8) then 114 else 45) && (Nat.beq (bif Nat.beq (Nat.land r 128) 128 then 119 else 45) (bif Nat.beq (r / 64 % 8 / 2 % 2) 1 then 119 else 45) && (Nat.beq (bif Nat.beq (Nat.land r 2112) 2112 then 115 else (bif Nat.beq (Nat.land r 2048) 2048 then 83 else (bif Nat.beq (Nat.land r 64) 64 then 120 else 45))) (bif Nat.beq (r / 2048 % 2) 1 then (bif Nat.beq (r / 64 % 8 % 2) 1 then 115 else 83) else (bif Nat.beq (r / 64 % 8 % 2) 1 then 120 else 45)) && (Nat.beq (bif Nat.beq (Nat.land r 32) 32 then 114 else 45) (bif Nat.ble 4 (r / 8 % 8) then 114 else 45) && (Nat.beq (bif Nat.beq (Nat.land r 16) 16 then 119 else 45) (bif Nat.beq (r / 8 % 8 / 2 % 2) 1 then 119 else 45) && (Nat.beq (bif Nat.beq (Nat.land r 1032) 1032 then 115 else (bif Nat.beq (Nat.land r 1024) 1024 then 83 else (bif Nat.beq (Nat.land r 8) 8 then 120 else 45))) (bif Nat.beq (r / 1024 % 2) 1 then (bif Nat.beq (r / 8 % 8 % 2) 1 then 115 else 83) else (bif Nat.beq (r / 8 % 8 % 2) 1 then 120 else 45)) && (Nat.beq (bif Nat.beq (Nat.land r 4) 4 then 114 else 45) (bif Nat.ble 4 (r % 8) then 114 else 45) && (Nat.beq (bif Nat.beq (Nat.land r 2) 2 then 119 else 45) (bif Nat.beq (r % 8 / 2 % 2) 1 then 119 else 45) && (Nat.beq (bif Nat.beq (Nat.land r 513) 513 then 116 else (bif Nat.beq (Nat.land r 512) 512 then 84 else (bif Nat.beq (Nat.land r 1) 1 then 120 else 45))) (bif Nat.beq (r / 512 % 2) 1 then (bif Nat.beq (r % 8 % 2) 1 then 116 else 84) else (bif Nat.beq (r % 8 % 2) 1 then 120 else 45)) && true))))))))
theorem chk_lB (r : Nat) : chkB r = lB (bs9.map (pick r)) (triB 6 (r / 64 % 8) (Nat.beq (r / 2048 % 2) 1) ++ triB 3 (r / 8 % 8) (Nat.beq (r / 1024 % 2) 1) ++ triB 0 (r % 8) (Nat.beq (r / 512 % 2) 1)) := rfl
set_option maxHeartbeats 0 in
theorem chk_all : allB (fun a => allB (fun b => chkB (a * 64 + b)) 64) 64 = true := by decide +kernel
theorem low_all (r : Nat) (hr : r < 4096) : [chR 1 r, chR 2 r, chR 3 r, chR 4 r, chR 5 r, chR 6 r, chR 7 r, chR 8 r, chR 9 r] = triR r := by
  have h0 := allB_at (allB_at chk_all (r / 64) (by omega)) (r % 64) (Nat.mod_lt _ (by decide))
  rw [show r / 64 * 64 + r % 64 = r by omega, chk_lB] at h0
  have h := lB_eq _ _ h0
  rw [← bs9_eq] at h
  unfold triR
  rw [tri_B (.inl rfl), tri_B (.inr (.inl rfl)), tri_B (.inr (.inr rfl))]
  unfold chR
  simp only [pick_find]
  refine Eq.trans h ?_
  unfold fig sp
  simp only [Nat.reducePow, Nat.reduceDiv, Nat.reduceAdd, Nat.div_one, beqN]
theorem chs_zero (m : Nat) (hm : m < 53248) : chs 0 m = kindC (m / 4096) := by
  have hk : ∀ k < 13, (match (bsAt 0).find? (fun p => 4096 * (k &&& 15) == p.1) with | some p => p.2 | none => 63) = kindC k := by decide +kernel
  have := hk (m / 4096) (by omega)
  rw [← this]
  unfold chs
  have e : (fun (p : Nat × Nat) => tst 0 m p.1) = fun p => 4096 * (m / 4096 &&& 15) == p.1 := by
    funext p; unfold tst; rw [if_pos rfl, and_high]
  rw [e]; rfl
theorem fm_sg (m : Nat) (hm : m < 53248) : fmL m = sgL m := by
  have h := low_all (m % 4096) (Nat.mod_lt _ (by decide))
  unfold fmL sgL
  rw [tri_low, ← h]
  show [chs 0 m, chs 1 m, chs 2 m, chs 3 m, chs 4 m, chs 5 m, chs 6 m, chs 7 m, chs 8 m, chs 9 m] = _
  rw [chs_zero m hm, chs_low 1 m (by decide) (by decide), chs_low 2 m (by decide) (by decide), chs_low 3 m (by decide) (by decide), chs_low 4 m (by decide) (by decide), chs_low 5 m (by decide) (by decide), chs_low 6 m (by decide) (by decide), chs_low 7 m (by decide) (by decide), chs_low 8 m (by decide) (by decide), chs_low 9 m (by decide) (by decide)]
end
section
section
variable {w : World} {A : Around} {env : Env} {R : Flow → Shared → Prop} {ss : List Stmt}
theorem while_gen {test : Expr} {body : List Stmt} {pos : Pos} (J : Nat → Shared → Prop) (b : Nat → Bool) (n : Nat) (hb : ∀ i, i < n → b i = true) (hn : b n = false)
    (ht : ∀ i s, i ≤ n → J i s → wpAny (model PF w) A (isTrue test env (eval test env)) (fun c s' => c = b i ∧ J i s') No s)
    (turn : ∀ i s, i < n → J i s → wpAny (model PF w) A (execs body env) (fun f s' => f = .next ∧ J (i + 1) s') No s)
    (after : ∀ s, J n s → wpAny (model PF w) A (execs ss env) R No s) (s : Shared) (h : J 0 s) : wpAny (model PF w) A (execs (.While test body [] pos :: ss) env) R No s := by
  refine wpAny_execs_cons (wpAny_While (codeAny_whileLoop (fun k s' => ∃ i, i ≤ n ∧ k = n + 1 - i ∧ J i s') ?_ (n + 1) ⟨0, Nat.zero_le _, rfl, h⟩))
  rintro k s' ⟨i, hi, rfl, hJ⟩
  refine no_mono (ht i s' hi hJ) fun c s2 x => ?_
  obtain ⟨rfl, hJ2⟩ := x
  by_cases hlt : i < n
  · rw [hb i hlt, if_pos rfl]
    refine no_mono (turn i s2 hlt hJ2) fun f s3 y => ?_
    obtain ⟨rfl, hJ3⟩ := y
    exact ⟨n + 1 - (i + 1), by omega, i + 1, hlt, rfl, hJ3⟩
  · have : i = n := by omega
    subst this
    rw [hn, if_neg (by decide)]
    exact wpAny_execs_nil (no_mono (after s2 hJ2) fun f s3 y => y)
theorem SX.while_ {s0 : Shared} {m cm : List (Str × PV)} {Z : Heap → Prop} {hz : Stable env Z} {test : Expr} {body : List Stmt} {pos : Pos} (M : Nat → List (Str × PV)) (b : Nat → Bool) (n : Nat) (hm : M 0 = m) (hb : ∀ i, i < n → b i = true) (hn : b n = false)
    (ht : ∀ i, i ≤ n → EB w A env (FI w s0 env (M i) cm Z hz) test (b i))
    (turn : ∀ i, i < n → SX w A env (FI w s0 env (M i) cm Z hz) body (fun f s' => f = .next ∧ FIP w s0 env (M (i + 1)) cm Z s'))
    (after : SX w A env (FI w s0 env (M n) cm Z hz) ss R) : SX w A env (FI w s0 env m cm Z hz) (.While test body [] pos :: ss) R := fun s F => by
  subst hm
  exact while_gen (fun i s => FIP w s0 env (M i) cm Z s) b n hb hn (fun i s hi F => (ht i hi).use F fun s' k F' => ⟨rfl, F'⟩) (fun i s hi F => turn i hi s F) after s F
end
end
section
theorem g_commonpath {P : Params} : nsFind (esMain P) (Str.ofString "commonpath") = some (.ref 167) := by kernel_rfl
theorem fn_commonpath (w : World) : Fn w 167 := .mk (Mine.suf.o_169 w.params) (by kernel_rfl) rfl
theorem b_len {P : Params} : nsFind (esMain P) (Str.ofString "len") = none ∧ nsFind (esBui P) (Str.ofString "len") = some (.builtin "len") := ⟨by kernel_rfl, by kernel_rfl⟩
theorem b_max {P : Params} : nsFind (esMain P) (Str.ofString "max") = none ∧ nsFind (esBui P) (Str.ofString "max") = some (.builtin "max") := ⟨by kernel_rfl, by kernel_rfl⟩
theorem b_min {P : Params} : nsFind (esMain P) (Str.ofString "min") = none ∧ nsFind (esBui P) (Str.ofString "min") = some (.builtin "min") := ⟨by kernel_rfl, by kernel_rfl⟩
end
section
theorem run_places {α : Type} (l : List α) (i n : Nat) (h : i + n ≤ l.length) : ((List.range n).map fun k => i + k).filterMap (l[·]?) = (l.drop i).take n := by
  induction n generalizing i with
  | zero => simp
  | succ n ih =>
    rw [List.range_succ_eq_map, List.map_cons, List.map_map, List.filterMap_cons, Nat.add_zero, List.getElem?_eq_getElem (by omega)]
    rw [List.drop_eq_getElem_cons (by omega), List.take_succ_cons]
    rw [← ih (i + 1) (by omega)]
    have e : (List.range n).map ((fun k => i + k) ∘ Nat.succ) = (List.range n).map fun k => i + 1 + k := List.map_congr_left fun k hk => by
      show i + (k + 1) = i + 1 + k
      omega
    rw [e]
theorem slice_S (l : List Nat) (i j : Nat) (hij : i ≤ j) (hj : j ≤ l.length) : Txt.slice (S l) (some (i : Int)) (some (j : Int)) = S ((l.drop i).take (j - i)) := by
  have hidx : Builtin.Str.strSliceIndices (some (i : Int)) (some (j : Int)) 1 l.length = (List.range (j - i)).map fun k => i + k := by
    unfold Builtin.Str.strSliceIndices
    dsimp only
    simp only [show (1 : Int) > 0 by decide, if_true, show ¬ ((i : Int) < 0) by omega, show ¬ ((j : Int) < 0) by omega, if_false]
    unfold sliceRange
    rw [show max (0 : Int) (min (i : Int) (l.length : Nat)) = i by omega, show max (0 : Int) (min (j : Int) (l.length : Nat)) = j by omega]
    simp only [show (1 : Int) > 0 by decide, if_true]
    by_cases h : (i : Int) < j
    · rw [if_pos h, show (((j : Int) - i + 1 - 1) / 1).toNat = j - i by rw [Int.ediv_one]; omega]
      refine List.map_congr_left fun k hk => ?_
      omega
    · rw [if_neg h, show j - i = 0 by omega]; rfl
  unfold Txt.slice
  rw [S_length, hidx]
  have hp : ((List.range (j - i)).map fun k => i + k).filterMap (fun x => (S l).cps[x]?) = (l.drop i).take (j - i) := by
    rw [← run_places l i (j - i) (by omega)]
    refine fm_congr _ fun x hx => ?_
    simp [S]
  split
  · rename_i h
    simp at h
    have h0 : i = 0 := by omega
    have h1 : j = l.length := by omega
    subst h0 h1
    simp
  · show S _ = _
    exact congrArg S hp
section
variable {w : World} {A : Around} {env : Env} {I : Inv}
theorem EV.sliceS {value lo hi : Expr} {p pos : Pos} {l : List Nat} {i j : Nat} (hv : EV w A env I value (.str (S l))) (h1 : EV w A env I lo (.int (i : Nat))) (h2 : EV w A env I hi (.int (j : Nat))) (hij : i ≤ j) (hj : j ≤ l.length) (hsz : l.length ≤ 1000)
    (ht : ∀ o r, letTemporaryGo value o r = pure () := by intro _ _; rfl) :
    EV w A env I (.Subscript value (.Slice (some lo) (some hi) Option.none p) pos) (.str (S ((l.drop i).take (j - i)))) := fun s F => by
  refine Subscript_Slice (hv.use F fun v s₁ r k F₁ => ?_) ht
  simp only [Rep] at r; obtain ⟨t, rfl⟩ := r
  refine wpAny_Slice (h1.use F₁ fun v2 s₂ r2 k2 F₂ => h2.use F₂ fun v3 s₃ r3 k3 F₃ => wpAny_pure ?_)
  simp only [Rep] at r2 r3; obtain ⟨u2, rfl⟩ := r2; obtain ⟨u3, rfl⟩ := r3
  refine SBH.sliceItem_ss (P := fun h => KpH s₃.heap h) (fun h ob x b o e => Heap.get?_push_of_some _ (x b o e)) (fun _ _ e => e) (fun h' t' k' hk => ?_) (by rw [S_length]; show _ ≤ 16777216; omega)
  rw [slice_S l i j hij hj]
  exact ⟨rep_str, kp_trans k (kp_trans k2 (kp_trans k3 ⟨h', k', rfl, hk⟩))⟩
end
end
section
theorem plainAttrs_fs : PlainAttrs "frozenset" :=
  ⟨⟨"object.__getattribute__", by rw [typeLookup_type, builtinLookup_eq_fast]; kernel_rfl, by decide +kernel⟩, by rw [typeLookup_type, builtinLookup_eq_fast]; kernel_rfl⟩
theorem owner_fs : Manifest.owners.lookup (String.ofList ['t', 'e', 's', 'n', 'e', 'z', 'o', 'r', 'f'].reverse) = some Manifest.sig_frozenset := by kernel_rfl
theorem slot_fs_issuperset : Slot "frozenset" (Str.ofString "issuperset") "frozenset.issuperset" :=
  .of (owner := "frozenset") (n := "issuperset") (by rw [typeLookup_type, builtinLookup_eq_fast]; kernel_rfl) (by decide +kernel) (by decide +kernel) (by decide +kernel)
    (by first | exact .inl (by decide +kernel) | exact .inr (by decide +kernel)) (by rw [isSubtype_type]; kernel_rfl)
theorem type_fs_issuperset : typeOf (.builtin "frozenset.issuperset") = pure (.type "method_descriptor") := by show builtinType _ = _; rw [builtinType_eq_fast]; kernel_rfl
theorem entry_fs_issuperset : entryFor table "frozenset.issuperset" = some Builtin.«frozenset.issuperset» := entryFor_of_tree (by kernel_rfl)
theorem args_fs_issuperset (a b : Value) : argsOk "frozenset.issuperset" ⟨[a, b], []⟩ := by
  unfold argsOk; rw [signature?_of (id := "frozenset.issuperset") (n := ['t', 'e', 's', 'r', 'e', 'p', 'u', 's', 's', 'i']) (o := ['t', 'e', 's', 'n', 'e', 'z', 'o', 'r', 'f']) (by kernel_rfl) owner_fs]; kernel_rfl
theorem slot_fs_isdisjoint : Slot "frozenset" (Str.ofString "isdisjoint") "frozenset.isdisjoint" :=
  .of (owner := "frozenset") (n := "isdisjoint") (by rw [typeLookup_type, builtinLookup_eq_fast]; kernel_rfl) (by decide +kernel) (by decide +kernel) (by decide +kernel)
    (by first | exact .inl (by decide +kernel) | exact .inr (by decide +kernel)) (by rw [isSubtype_type]; kernel_rfl)
theorem type_fs_isdisjoint : typeOf (.builtin "frozenset.isdisjoint") = pure (.type "method_descriptor") := by show builtinType _ = _; rw [builtinType_eq_fast]; kernel_rfl
theorem entry_fs_isdisjoint : entryFor table "frozenset.isdisjoint" = some Builtin.«frozenset.isdisjoint» := entryFor_of_tree (by kernel_rfl)
theorem args_fs_isdisjoint (a b : Value) : argsOk "frozenset.isdisjoint" ⟨[a, b], []⟩ := by
  unfold argsOk; rw [signature?_of (id := "frozenset.isdisjoint") (n := ['t', 'n', 'i', 'o', 'j', 's', 'i', 'd', 's', 'i']) (o := ['t', 'e', 's', 'n', 'e', 'z', 'o', 'r', 'f']) (by kernel_rfl) owner_fs]; kernel_rfl
end
section
theorem hex_elems {w : World} {es : Array (Int × Value)} {t : SetTable} (g : HexGood w.params 22 es t) : ElemsOf (PySem.strKind PF w) es.toList := fun e he => by
  obtain ⟨j, hj, rfl⟩ := g.mem e he
  refine ⟨⟨hx j, ?_, rfl⟩, rfl⟩
  show Value.isStrOf (hx j) (Value.str (hx j) (426 + 2 * j)) = true
  simp [Value.isStrOf]
theorem hex_find {w : World} {A : Around} {E : Value → Shared → Prop} {s : Shared} {es : Array (Int × Value)} {ep : Nat} {t : SetTable} (g : HexGood w.params 22 es t) (ho : s.heap.get? 168 = some (hexO es ep t)) {j : Nat} (hj : j < 22) {u : Tok} {Q : Option Nat → Shared → Prop}
    (h : ∀ r, Q (some r) s) : wpAny (model PF w) A (setFind 168 (.str (hx j) u) (hashStr w (hx j))) Q E s := by
  have hkey : (PySem.strKind PF w).is (hx j) (.str (hx j) u) = true := by show Value.isStrOf (hx j) (Value.str (hx j) u) = true; simp [Value.isStrOf]
  unfold setFind setFindIn
  refine wpAny_bind (wpAny_setState_of ho rfl g.fits ?_)
  dsimp only
  rw [byScan_of (knd := PySem.strKind PF w) rfl (by rw [g.size]; decide) (hex_elems g)]
  simp only [↓reduceIte]
  refine wpAny_bind (wpAny_rule ?_)
  refine wpAny_bind (wpAny_setScan_of (knd := PySem.strKind PF w) (k := hx j) hkey ho rfl g.fits (hex_elems g) ?_)
  cases hr : List.findIdx? (fun e => (PySem.strKind PF w).is (hx j) e.2) es.toList with
  | some i =>
    dsimp only
    exact wpAny_pure (h _)
  | none =>
    exfalso
    have hm : (PyData.keyHash w.params (hx j), Value.str (hx j) (426 + 2 * j)) ∈ es.toList := g.perm.mem_iff.mpr (by rw [hexEs, List.mem_map]; exact ⟨j, List.mem_range.mpr hj, rfl⟩)
    have := List.findIdx?_eq_none_iff.mp hr _ hm
    have h2 : (PySem.strKind PF w).is (hx j) (Value.str (hx j) (426 + 2 * j)) = true := by show Value.isStrOf (hx j) (Value.str (hx j) (426 + 2 * j)) = true; simp [Value.isStrOf]
    rw [h2] at this; cases this
end
section
theorem entry_superset_loop : entryFor table "frozenset.issuperset.loop" = some Builtin.«frozenset.issuperset.loop» := entryFor_of_tree (by kernel_rfl)
theorem plain_superset_loop : plainId "frozenset.issuperset.loop" = true := by decide +kernel
theorem superset_loop {w : World} {A : Around} {R : Result → Shared → Prop} {I : Addr} {fp : List Addr} {n : Nat} {P : Nat → Value → Prop} {St : Nat → Heap → Prop} {es : Array (Int × Value)} {ep : Nat} {t : SetTable} (g : HexGood w.params 22 es t)
    (W : Walks PF w A.in1 I fp [I] n P St) (hI : I ≠ 168) (hP : ∀ i v, P i v → ∃ j u, j < 22 ∧ v = .str (hx j) u) :
    ∀ (k i : Nat) (s : Shared), n - i = k → i ≤ n → St i s.heap → s.heap.get? 168 = some (hexO es ep t) →
    (∀ h' tk, (∀ b o, b ∉ [I] → s.heap.get? b = some o → h'.get? b = some o) → R (.ok (.ret (.bool true))) { s with heap := h', toks := tk }) →
    codeAny (model PF w) A (.builtin "frozenset.issuperset.loop" ⟨[.ref 168, .ref I], []⟩) R s := by
  intro k
  induction k with
  | zero =>
    intro i s hk hi hst ho hR
    have hin : i = n := by omega
    refine codeAny_builtin entry_superset_loop ?_
    rw [Around.under_plainId plain_superset_loop _]
    show wpAny _ A.in1 (pyNext (.ref I) >>= _) _ _ s
    refine wpAny_bind (W.done s _ _ (hin ▸ hst) fun h' tk hk' => ?_)
    exact wpAny_pure (hR h' tk hk')
  | succ k ih =>
    intro i s hk hi hst ho hR
    have hlt : i < n := by omega
    refine codeAny_builtin entry_superset_loop ?_
    rw [Around.under_plainId plain_superset_loop _]
    show wpAny _ A.in1 (pyNext (.ref I) >>= _) _ _ s
    refine wpAny_bind (W.item i s _ _ hlt hst fun v h' tk hv hst' hk' => ?_)
    obtain ⟨j, u, hj, rfl⟩ := hP i v hv
    have ho' : h'.get? 168 = some (hexO es ep t) := hk' _ _ (by simpa using Ne.symm hI) ho
    show wpAny _ A.in1 (holding [.str (hx j) u] (setContains 168 (.str (hx j) u)) >>= _) _ _ _
    refine wpAny_bind (wpAny_holding ?_)
    unfold setContains
    refine wpAny_holding ?_
    refine wpAny_bind (wpAny_pyHash_str ?_)
    refine wpAny_bind (hex_find (s := { s with heap := h', toks := tk + 1 }) g ho' hj fun r => wpAny_pure ?_)
    refine wpAny_pure ⟨plainId_quiet plain_superset_loop _, ih (i + 1) _ (by omega) hlt hst' ho' fun h2 tk2 hk2 => hR h2 tk2 fun b o hb e => hk2 b o hb (hk' b o hb e)⟩
end
section
theorem sub_str_set : isSubtype (.type "str") (.type "set") = pure false := by rw [isSubtype_type]; kernel_rfl
theorem sub_str_fs : isSubtype (.type "str") (.type "frozenset") = pure false := by rw [isSubtype_type]; kernel_rfl
theorem call_issuperset {w : World} {A : Around} {E : Value → Shared → Prop} {s : Shared} {Q : Value → Shared → Prop} (hA : A.handled = none) (X : XAt w s.heap) {l : List Nat} {u : Tok} (hl : ∀ c ∈ l, ∃ j, j < 22 ∧ hx j = S [c]) (hasc : (S l).cps.all (· < 128) = true)
    (hQ : ∀ h' tk, KpH s.heap h' → Q (.bool true) { s with heap := h', toks := tk }) : wpAny (model PF w) A (call (.builtin "frozenset.issuperset") [.ref 168, .str (S l) u]) Q E s := by
  obtain ⟨_, es, ep, t, g, ho⟩ := X
  have hT : s.TypeIs (.ref 168) "frozenset" := ⟨_, ho, rfl⟩
  refine wpAny_call (codeAny_call_builtin slot_fs_issuperset.plain entry_fs_issuperset (slot_fs_issuperset.check _ _ _ _ _ _ _ _ hT (args_fs_issuperset _ _) ?_))
  obtain ⟨hp, gs, dr, tk, os⟩ := s
  have h1 := sub_str_set
  have h2 := sub_str_fs
  wp_walk using wpAny_pyIter_ascii hasc
  have hfree : ∀ b o, hp.get? b = some o → b ≠ hp.objs.size := fun b o e => Nat.ne_of_lt (Heap.lt_size e)
  refine ⟨plainId_quiet plain_superset_loop _, superset_loop g (Walks.strAscii (A := A.in1) hA hp.objs.size (S l) u) (fun e => hfree _ _ ho e.symm) (fun i v hv => ?_) _ 0 _ rfl (Nat.zero_le _) ⟨_, Heap.get?_push_size _ rfl, rfl, rfl⟩ (Heap.get?_push_of_some _ ho) fun h' tk' hk => hQ h' tk' fun b o e => hk b o (by simpa using hfree b o e) (Heap.get?_push_of_some _ e)⟩
  obtain ⟨c, t', hc, rfl⟩ := hv
  obtain ⟨j, hj, e⟩ := hl c (by
    have : l[i]? = some c := by simpa [S] using hc
    exact List.mem_of_getElem? this)
  exact ⟨j, t', hj, by rw [e]; rfl⟩
end
section
set_option hygiene false in
local macro_rules | `(tactic| walk_at "rdnprop") => do
  let n := Lean.mkIdent ((Lean.Name.num (Lean.Name.str Lean.Name.anonymous "_private" ++ `PySem.Builtin.Int.W0All) 0) ++ `PySem.Builtin.readNumeral)
  let v := Lean.mkIdent ((Lean.Name.num (Lean.Name.str Lean.Name.anonymous "_private" ++ `PySem.Builtin.Int.W0All) 0) ++ `PySem.Builtin.Numeral.value)
  `(tactic| exact ($n 0 16 l = $v (m : Int)))
noncomputable def rdVal (l : List Nat) (m : Nat) : Prop := by walk_at "rdnprop"
theorem meets_int_text (x : Str) (u t : Tok) (m : Nat) (hasc : x.cps.all (· < 128) = true) (hs : x.cps.toList.takeWhile (· != 0) = x.cps.toList) (hl : x.cps.toList.length ≤ 640) (hr : rdVal x.cps.toList m) :
    Meets (Builtin.«int.__new__» ⟨[.type "int", .str x u, .int 16 t], []⟩) (Made.int (m : Int)).spec :=
  Meets.of_wp fun prog w A R s hq => by
    obtain ⟨hp, g, d, tk, os⟩ := s
    have f1 := F.conv_sub_int
    have f2 := F.madeHere_int
    unfold rdVal at hr
    repeat (any_goals (first | assumption | wp_step))
    rw [if_pos hasc, hs, if_pos hl]
    refine wpAny_bind (wpAny_pure ?_)
    dsimp only
    rw [show Int.toNat 16 = 16 from rfl, hr]
    dsimp only
    rw [if_pos (by simp)]
    repeat (any_goals (first | assumption | wp_step))
    all_goals exact ⟨_, rfl, hq⟩
end
section
set_option linter.unusedSimpArgs false
local macro_rules | `(tactic| walk_at "rdgo") => do
  let p := fun (s : Lean.Name) => Lean.mkIdent ((Lean.Name.num (Lean.Name.str Lean.Name.anonymous "_private" ++ `PySem.Builtin.Int.W0All) 0) ++ s)
  let a := p `PySem.Builtin.readNumeral
  let b := p `PySem.Builtin.numeralDigits?
  let c := p `PySem.Builtin.isBlank
  let d := p `PySem.Builtin.digitValue?
  let e := p `PySem.Builtin.prefixBase?
  `(tactic| (unfold $a; (try unfold $e); (try unfold $b); (try unfold $c); (try unfold $d)))
theorem hexc_eq (d : Nat) (h : d < 16) : hexc d = if d < 10 then 48 + d else 87 + d := by
  have : ∀ d < 16, hexc d = if d < 10 then 48 + d else 87 + d := by decide +kernel
  exact this d h
noncomputable def HexD (x v : Nat) : Prop := (48 ≤ x ∧ x ≤ 57 ∧ v = x - 48) ∨ (97 ≤ x ∧ x ≤ 102 ∧ v = x - 87)
theorem HexD.of (d : Nat) (h : d < 16) : HexD (hexc d) d := by
  rw [hexc_eq d h]; unfold HexD
  by_cases h1 : d < 10
  · rw [if_pos h1]; omega
  · rw [if_neg h1]; omega
noncomputable def dvF (c : Nat) : Option Nat := if (decide (48 ≤ c) && decide (c ≤ 57)) = true then some (c - 48)
                        else
                          if (decide (97 ≤ c) && decide (c ≤ 122)) = true then some (c - 87)
                          else if (decide (65 ≤ c) && decide (c ≤ 90)) = true then some (c - 55) else none
theorem dvF_of {x v : Nat} (h : HexD x v) : dvF x = some v := by
  unfold dvF
  rcases h with ⟨h1, h2, rfl⟩ | ⟨h1, h2, rfl⟩
  · rw [if_pos (by simp; omega)]
  · rw [if_neg (by simp; omega), if_pos (by simp; omega)]
theorem HexD.blank {x v : Nat} (h : HexD x v) : (x == 32 || decide (9 ≤ x) && decide (x ≤ 13)) = false := by
  unfold HexD at h
  have h1 : (x == 32) = false := by simp; omega
  have h2 : decide (x ≤ 13) = false := by simp; omega
  rw [h1, h2]; simp
theorem HexD.lt {x v : Nat} (h : HexD x v) : v < 16 := by unfold HexD at h; omega
theorem HexD.ne (k : Nat) {x v : Nat} (h : HexD x v) (hk : k < 48) : x ≠ k := by unfold HexD at h; omega
theorem HexD.n95 {x v : Nat} (h : HexD x v) : x ≠ 95 := by unfold HexD at h; omega
theorem HexD.npre {x v : Nat} (h : HexD x v) : (x == 120 || x == 88) = false ∧ (x == 111 || x == 79) = false := by
  unfold HexD at h
  have h1 : (x == 120) = false := by simp; omega
  have h2 : (x == 88) = false := by simp; omega
  have h3 : (x == 111) = false := by simp; omega
  have h4 : (x == 79) = false := by simp; omega
  rw [h1, h2, h3, h4]; simp
theorem rd_gen (x y z u a b c d : Nat) (hx : HexD x a) (hy : HexD y b) (hz : HexD z c) (hu : HexD u d) : rdVal [x, y, z, u] (a * 4096 + b * 256 + c * 16 + d) := by
  unfold rdVal
  walk_at "rdgo"
  have e1 : List.dropWhile (fun c => c == 32 || decide (9 ≤ c) && decide (c ≤ 13)) [x, y, z, u] = [x, y, z, u] := by
    rw [List.dropWhile_cons_of_neg (by rw [hx.blank]; simp)]
  have e2 : (List.dropWhile (fun c => c == 32 || decide (9 ≤ c) && decide (c ≤ 13)) [x, y, z, u].reverse).reverse = [x, y, z, u] := by
    show (List.dropWhile (fun c => c == 32 || decide (9 ≤ c) && decide (c ≤ 13)) [u, z, y, x]).reverse = _
    rw [List.dropWhile_cons_of_neg (by rw [hu.blank]; simp)]; rfl
  have x45 : ¬ x = 45 := hx.ne 45 (by decide)
  have x43 : ¬ x = 43 := hx.ne 43 (by decide)
  have x95 := hx.n95
  have y95 := hy.n95
  have z95 := hz.n95
  have u95 := hu.n95
  have hdx := dvF_of hx
  have hdy := dvF_of hy
  have hdz := dvF_of hz
  have hdu := dvF_of hu
  have yp := hy.npre
  unfold dvF at hdx hdy hdz hdu
  have lx := hx.lt
  have ly := hy.lt
  have lz := hz.lt
  have lu := hu.lt
  rw [e1]
  have hb : (![2, 4, 8, 16, 32].contains 16) = false := by decide
  have x95' : (x == 95) = false := by simpa using x95
  have y95' : (y == 95) = false := by simpa using y95
  have z95' : (z == 95) = false := by simpa using z95
  have u95' : (u == 95) = false := by simpa using u95
  have s1 : (16 == 0) = false := rfl
  have s2 : (16 == 2) = false := rfl
  have s3 : (16 == 10) = false := rfl
  have hf : Array.foldl (fun acc d => acc * 16 + d) 0 ((((#[].push a).push b).push c).push d) = a * 4096 + b * 256 + c * 16 + d := by
    simp; omega
  by_cases hx0 : x = 48
  · subst hx0
    by_cases hy98 : (y == 98 || y == 66) = true
    · simp only [yp.1, yp.2, hy98, e2, List.foldlM_cons, List.foldlM_nil, if_true, if_false, Bool.false_eq_true, s1, s2, s3, Bool.or_false, Bool.false_or, hb]
      simp only [x95', y95', z95', u95', hdx, hdy, hdz, hdu, lx, ly, lz, lu, if_true, if_false, Bool.false_eq_true, Option.bind_eq_bind, Option.bind_some, Bool.false_and, pure, Bool.or_false, s1, s2, s3, e2, List.foldlM_cons, List.foldlM_nil, hb, hf]
    · have hy98' : (y == 98 || y == 66) = false := by simpa using hy98
      simp only [yp.1, yp.2, hy98', e2, List.foldlM_cons, List.foldlM_nil, if_true, if_false, Bool.false_eq_true, s1, s2, s3, Bool.or_false, Bool.false_or, hb]
      simp only [x95', y95', z95', u95', hdx, hdy, hdz, hdu, lx, ly, lz, lu, if_true, if_false, Bool.false_eq_true, Option.bind_eq_bind, Option.bind_some, Bool.false_and, pure, Bool.or_false, s1, s2, s3, e2, List.foldlM_cons, List.foldlM_nil, hb, hf]
  · have n45 : ∀ r, [x, y, z, u] = 45 :: r → False := fun r h => by cases h; exact x45 rfl
    have n43 : ∀ r, [x, y, z, u] = 43 :: r → False := fun r h => by cases h; exact x43 rfl
    have n48 : ∀ c r, [x, y, z, u] = 48 :: c :: r → False := fun c r h => by cases h; exact hx0 rfl
    simp only [n45, n43, n48, x45, x43, hx0, e2, List.foldlM_cons, List.foldlM_nil, if_true, if_false, Bool.false_eq_true, s1, s2, s3, Bool.or_false, Bool.false_or, hb]
    simp only [x95', y95', z95', u95', hdx, hdy, hdz, hdu, lx, ly, lz, lu, if_true, if_false, Bool.false_eq_true, Option.bind_eq_bind, Option.bind_some, Bool.false_and, pure, Bool.or_false, s1, s2, s3, e2, List.foldlM_cons, List.foldlM_nil, hb, hf]
theorem rd_hex (a b c d : Nat) (ha : a < 16) (hb : b < 16) (hc : c < 16) (hd : d < 16) : rdVal [hexc a, hexc b, hexc c, hexc d] (a * 4096 + b * 256 + c * 16 + d) :=
  rd_gen _ _ _ _ _ _ _ _ (.of _ ha) (.of _ hb) (.of _ hc) (.of _ hd)

theorem rd_hexs (m : Nat) (hm : m < 65536) : rdVal (hexs m) m := by
  have h := rd_hex (m / 4096 % 16) (m / 256 % 16) (m / 16 % 16) (m % 16) (Nat.mod_lt _ (by decide)) (Nat.mod_lt _ (by decide)) (Nat.mod_lt _ (by decide)) (Nat.mod_lt _ (by decide))
  have e : m / 4096 % 16 * 4096 + m / 256 % 16 * 256 + m / 16 % 16 * 16 + m % 16 = m := by omega
  rw [e] at h
  exact h
theorem typeCall_int_2 (a b : Value) : checkTypeCall "int" ⟨[a, b], []⟩ = pure () := by rw [Fast.te11612656972197000677]; kernel_rfl
theorem newCall_int_2 (a b : Value) : checkBuiltinCall "int.__new__" ⟨[.type "int", a, b], []⟩ = pure () := by rw [Fast.te10254737850608025244]; kernel_rfl
theorem hexc_ascii (d : Nat) (h : d < 16) : 48 ≤ hexc d ∧ hexc d < 128 := by
  have : ∀ d < 16, 48 ≤ hexc d ∧ hexc d < 128 := by decide +kernel
  exact this d h
theorem hexs_lt (m : Nat) : ∀ c ∈ hexs m, ∃ d, d < 16 ∧ c = hexc d := by
  intro c hc
  simp only [hexs, List.mem_cons, List.not_mem_nil, or_false] at hc
  rcases hc with rfl | rfl | rfl | rfl <;> exact ⟨_, Nat.mod_lt _ (by decide), rfl⟩
theorem hexs_ascii (m : Nat) : (S (hexs m)).cps.all (· < 128) = true := by
  rw [← Array.all_toList, List.all_eq_true]
  intro c hc
  obtain ⟨d, hd, rfl⟩ := hexs_lt m c hc
  simpa using (hexc_ascii d hd).2
theorem hexs_nz (m : Nat) : (S (hexs m)).cps.toList.takeWhile (· != 0) = (S (hexs m)).cps.toList := by
  show (hexs m).takeWhile (· != 0) = hexs m
  have h0 : ∀ d, d < 16 → (hexc d != 0) = true := fun d hd => by
    have := (hexc_ascii d hd).1
    simp; omega
  simp [hexs, List.takeWhile_cons, h0 _ (Nat.mod_lt _ (by decide : 0 < 16))]
theorem hexc_hx (d : Nat) (h : d < 16) : ∃ j, j < 22 ∧ hx j = S [hexc d] := by
  have : ∀ d < 16, ∃ j, j < 22 ∧ hx j = S [hexc d] := by decide +kernel
  exact this d h
section
variable {w : World} {A : Around} {env : Env} {I : Inv}
theorem call_int_hex {E : Value → Shared → Prop} {s : Shared} {Q : Value → Shared → Prop} (m : Nat) (hm : m < 65536) {u t : Tok} (hQ : ∀ t' tk, Q (.int (m : Int) t') { s with toks := tk }) : wpAny (model PF w) A (call (.type "int") [.str (S (hexs m)) u, .int 16 t]) Q E s :=
  callType_new F.called_int F.newNe_int (typeCall_int_2 _ _) (newCall_int_2 _ _) (fun obj => F.args_object_init_3 obj _ _) F.entry_int_new
    (meets_int_text (S (hexs m)) u t m (hexs_ascii m) (hexs_nz m) (by show (hexs m).length ≤ 640; simp [hexs]) (rd_hexs m hm)) (show (Made.int (m : Int)).post _ s from ⟨rfl, hQ _ _⟩)
theorem EV.int16 {x : Str} {p pos : Pos} {e e' : Expr} (m : Nat) (hm : m < 65536) (hn : EV w A env I (.Name x p) (.val (.type "int"))) (he : EV w A env I e (.str (S (hexs m)))) (he' : EV w A env I e' (.int 16))
    (h1 : eval (.Call (.Name x p) [e, e'] [] pos) env = (do callWith pos (← eval (.Name x p) env) [] (backTo pos (starEach [e, e'] env)) (backToKw pos (keywordEach [] env))) := by rfl)
    (h2 : starEach [e, e'] env = (false, eval e env) :: starEach [e'] env := by rfl) (h3 : starEach [e'] env = (false, eval e' env) :: starEach [] env := by rfl) :
    EV w A env I (.Call (.Name x p) [e, e'] [] pos) (.int (m : Int)) := fun s F =>
  Call_ (hn.use F fun v s' r k F' => by
    simp only [Rep] at r; subst r
    refine PyProof.Rows.callWith_type1 (args_cons (he.use F' fun v2 s2 r2 k2 F2 => args_cons (he'.use F2 fun v3 s3 r3 k3 F3 => args_nil ?_) h3) h2) h2 (by rw [h3]; rfl)
    simp only [Rep] at r2 r3; obtain ⟨t, rfl⟩ := r2; obtain ⟨u, rfl⟩ := r3
    exact call_int_hex m hm fun _ tk => ⟨rep_int, kp_trans k (kp_trans k2 (kp_trans k3 (kp_toks _ _)))⟩) h1
theorem EV.superset {o e : Expr} {apos pos : Pos} {l : List Nat} (hA : A.handled = Option.none) (hI : I.Has w) (ho : EV w A env I o (.val (.ref 168))) (he : EV w A env I e (.str (S l)))
    (hl : ∀ c ∈ l, ∃ j, j < 22 ∧ hx j = S [c]) (hasc : (S l).cps.all (· < 128) = true)
    (hbase : attributeBase o (Str.ofString "issuperset") env (eval o env) = eval o env := by rfl) (hs : starEach [e] env = [(false, eval e env)] := by rfl) (hline : (apos.endLine == pos.line) = true := by rfl) :
    EV w A env I (.Call (.Attribute o (Str.ofString "issuperset") apos) [e] [] pos) (.bool true) := fun s F =>
  Call_method1 hbase hs hline (ho.use F fun v s' r k F' => by
    simp only [Rep] at r; subst r
    obtain ⟨_, es, ep, t, g, hso⟩ := hI.x s' F'
    refine ⟨"frozenset", "frozenset.issuperset", plainAttrs_fs, slot_fs_issuperset, type_fs_issuperset, ⟨_, hso, rfl⟩, fun a e => by cases e; exact ⟨_, hso, rfl⟩, Calls.callWith_builtin rfl (Calls.evalArgs_plain (Calls.spliced_cons (he.use F' fun v2 s2 r2 k2 F2 => Calls.spliced_nil ?_)))⟩
    simp only [Rep] at r2; obtain ⟨u, rfl⟩ := r2
    exact call_issuperset hA (hI.x s2 F2) hl hasc fun h' tk kk => ⟨rep_bool, kp_trans k (kp_trans k2 ⟨h', tk, rfl, kk⟩)⟩)
end
theorem g_hexc {P : Params} : nsFind (esMain P) (Str.ofString "HEXDIGIT_CHARS") = some (.ref 168) := by kernel_rfl
theorem g_uni {P : Params} : nsFind (esMain P) (Str.ofString "is_unicode_scalar_value") = some (.ref 212) := by kernel_rfl
theorem b_int {P : Params} : nsFind (esMain P) (Str.ofString "int") = none ∧ nsFind (esBui P) (Str.ofString "int") = some (.type "int") := ⟨by kernel_rfl, by kernel_rfl⟩
theorem b_chr {P : Params} : nsFind (esMain P) (Str.ofString "chr") = none ∧ nsFind (esBui P) (Str.ofString "chr") = some (.builtin "chr") := ⟨by kernel_rfl, by kernel_rfl⟩
theorem fn_uni (w : World) : Fn w 212 := .mk (Mine.suf.o_217 w.params) (by kernel_rfl) rfl
theorem pc_parse_hex_char (w : World) (l : List Nat) (i m : Nat) (hl : l.length ≤ 1000) (hi : i + 4 ≤ l.length) (hm : m < 53248) (hs : (l.drop i).take 4 = hexs m) :
    PC w 3 198 [.str (S l), .int (i : Nat), .int 4] (.tup [.int ((i + 4 : Nat) : Int), .str (S [m])]) := by
  have hd : (Mine.suf.o_203 w.params).data = .func _ := rfl
  refine PC.body [Str.ofString "src", Str.ofString "pos", Str.ofString "hex_len"] [(Str.ofString "hex_len", .int 4), (Str.ofString "pos", .int (i : Nat)), (Str.ofString "src", .str (S l))] rfl (by kernel_rfl) hd (by kernel_rfl) rfl rfl rfl (fun vs h => ?_) ?_ rfl rfl rfl (fun L => Stable.tt) fun A s L hA => ?_
  · obtain ⟨v, u, x, rfl⟩ := len3 h; rfl
  · decide +kernel
  have hA1 : Lv 1 A := hA.less (by decide)
  refine SX.assign (pv := .str (S (hexs m))) ?_ (by kernel_rfl) (by kernel_rfl) (by rfl) ?_
  · refine EV.as (EV.sliceS (i := i) (j := i + 4) (by walk_at "ev") (by walk_at "ev") (EV.as (p := .int ((i : Int) + 4)) (by walk_at "ev") (congrArg PV.int (by omega))) (by omega) hi hl) ?_
    rw [show i + 4 - i = 4 by omega, hs]
  have hlen : (S (hexs m)).length = 4 := by rw [S_length]; rfl
  refine SX.if_ (b := (((S (hexs m)).length : Int) != 4) || (!true || false)) (EB.or (EB.cmp (EV.callbui (EV.bui FI.has b_len.1 b_len.2 (by kernel_rfl) (by kernel_rfl) (by kernel_rfl) (by kernel_rfl) (by kernel_rfl)) (EVs.cons (by walk_at "ev") EVs.nil rfl) (CallV.len_str (by rw [hlen]; decide))) (by walk_at "ev") CmpV.ne_int) fun _ => EB.or (EB.not (EB.plain (EV.superset hA.1 FI.has (EV.glob FI.has g_hexc (by kernel_rfl) (by kernel_rfl) (by kernel_rfl) (by kernel_rfl)) (by walk_at "ev") (fun c hc => ?hx) (hexs_ascii m)) TrV.bool)) fun _ => EB.or_nil) (fun h => ?h1) (fun _ => ?h2)
  case hx => obtain ⟨d, hd, rfl⟩ := hexs_lt m c hc; exact hexc_hx d hd
  case h1 => rw [hlen] at h; simp at h
  case h2 =>
    refine SX.then_nil (SX.aug (by walk_at "lk") (by walk_at "ev") IOpV.add_int (by kernel_rfl) (by kernel_rfl) ?_)
    refine SX.assign (EV.int16 m (by omega) (EV.bui FI.has b_int.1 b_int.2 (by kernel_rfl) (by kernel_rfl) (by kernel_rfl) (by kernel_rfl) (by kernel_rfl)) (by walk_at "ev") EV.int) (by kernel_rfl) (by kernel_rfl) (by rfl) ?_
    refine SX.if_ (b := !true) (EB.not (EB.plain (EV.fn (pc_uni w (m : Int) (by omega) (by omega)) (fn_uni w) hA1 (EV.glob FI.has g_uni (by kernel_rfl) (by kernel_rfl) (by kernel_rfl) (by kernel_rfl)) (by walk_at "evs") FI.has) TrV.bool)) (fun h => by simp at h) (fun _ => ?_)
    refine SX.then_nil (SX.ret (pv := .tup [.int ((i + 4 : Nat) : Int), .str (S [m])]) (EV.tuple (EVs.cons (EV.as (p := .int ((i : Int) + 4)) (by walk_at "ev") (congrArg PV.int (by omega))) (EVs.cons ?_ EVs.nil rfl) rfl) (by simp [sizeLine])) fun s' v F r => ⟨v, rfl, r, FIP.kp F⟩)
    exact EV.as (EV.callbui (EV.bui FI.has b_chr.1 b_chr.2 (by kernel_rfl) (by kernel_rfl) (by kernel_rfl) (by kernel_rfl) (by kernel_rfl)) (EVs.cons (by walk_at "ev") EVs.nil rfl) (CallV.chr (i := (m : Int)) (by omega) (by omega))) rfl
end
section
open Builtin Builtin.Str in
theorem raises_str_index_from (x y : Str) (i : Int) (t u v : Tok) (h : occurrences x y (fromIndex x.length i) x.length 1 = []) : Meets (Builtin.«str.index» ⟨[.str x t, .str y u, .int i v], []⟩) (raisesNew "ValueError") := by
  intro prog w A R s hS
  show wpAny _ _ (match occurrences x y (fromIndex x.length i) (min x.length x.length) 1 with | i :: _ => retInt i | [] => _) _ _ s
  rw [Nat.min_self, h]
  first
    | exact wpAny_bind (wpAny_rule (by exact_raiseError plainExc_ValueError hS.1 hS.2))
    | exact wpAny_bind (wpAny_rule (wpAny_bind (by exact_raiseError plainExc_ValueError hS.1 hS.2)))
open Builtin Builtin.Str in
theorem gives_str_index_from (x y : Str) (i : Int) (t u v : Tok) (k : Nat) (rest : List Nat) (h : occurrences x y (fromIndex x.length i) x.length 1 = k :: rest) : Gives (Builtin.«str.index» ⟨[.str x t, .str y u, .int i v], []⟩) (.int k) := by
  show Gives (match occurrences x y (fromIndex x.length i) (min x.length x.length) 1 with | i :: _ => retInt i | [] => (do rule "str.index.not-found"; raiseError "ValueError" "substring not found")) _
  rw [Nat.min_self, h]
  exact .of_eq rfl
/-- the first place at which p stands in l, from i on -/
noncomputable def firstAt (l p : List Nat) (i : Nat) : Option Nat := match Builtin.Str.occurrences (S l) (S p) i l.length 1 with | k :: _ => some k | [] => none
theorem firstAt_spec (l p : List Nat) (i : Nat) (hi : i + p.length ≤ l.length) : (firstAt l p i == some i) = ((l.drop i).take p.length == p) := by
  have hs := StrLaws.occ_head_from (S l) (S p) i 1 (Nat.le_refl _)
  have hA : ∀ k, Builtin.Str.subAt (S l) (S p) k = ((l.drop k).take p.length == p) := fun k => by rw [StrLaws.subAt_eq]; rfl
  unfold firstAt
  rcases hs with ⟨h0, hn⟩ | ⟨k, r, h0, hle, ha, hn⟩
  · rw [S_length] at h0
    rw [h0]
    have h1 : Builtin.Str.subAt (S l) (S p) i ≠ true := fun h => hn i (Nat.le_refl _) ⟨by rw [S_length, S_length]; exact hi, h⟩
    rw [hA] at h1
    simp only [Bool.not_eq_true] at h1
    rw [h1]; rfl
  · rw [S_length] at h0
    rw [h0]
    by_cases hk : k = i
    · subst hk
      have h1 := ha.2
      rw [hA] at h1
      rw [h1]; simp
    · have h1 : Builtin.Str.subAt (S l) (S p) i ≠ true := fun h => hn i (Nat.le_refl _) (by omega) ⟨by rw [S_length, S_length]; exact hi, h⟩
      rw [hA] at h1
      simp only [Bool.not_eq_true] at h1
      rw [h1]
      simpa using hk
theorem firstAt_le (l p : List Nat) (i k : Nat) (h : firstAt l p i = some k) : i ≤ k ∧ k + p.length ≤ l.length := by
  have hs := StrLaws.occ_head_from (S l) (S p) i 1 (Nat.le_refl _)
  unfold firstAt at h
  rcases hs with ⟨h0, hn⟩ | ⟨k', r, h0, hle, ha, hn⟩
  · rw [S_length] at h0
    rw [h0] at h; cases h
  · rw [S_length] at h0
    rw [h0] at h
    cases h
    have h2 := ha.1
    rw [S_length, S_length] at h2
    exact ⟨hle, h2⟩
section
variable {w : World} {A : Around} {E : Value → Shared → Prop} {s : Shared} {Q : Value → Shared → Prop}
theorem fromIndex_nat (n i : Nat) : fromIndex n (i : Int) = i := by
  unfold fromIndex
  rw [if_neg (by omega)]; omega
theorem index3_found {l p : List Nat} {i k : Nat} {t u v : Tok} (h : firstAt l p i = some k) (hQ : Q (.int (k : Int) s.toks) { s with toks := s.toks + 1 }) :
    wpAny (model PF w) A (call (.builtin "str.index") [.str (S l) t, .str (S p) u, .int (i : Int) v]) Q E s := by
  have h0 : ∃ r, Builtin.Str.occurrences (S l) (S p) (fromIndex (S l).length (i : Int)) (S l).length 1 = k :: r := by
    rw [fromIndex_nat, S_length]
    unfold firstAt at h
    split at h
    · rename_i k' r e; cases h; exact ⟨r, e⟩
    · cases h
  obtain ⟨r, h0⟩ := h0
  exact call_gives F.slot_str_index (typeIs_str _ _ _) F.entry_str_index (F.args_str_index_3 _ _ _) (gives_str_index_from (S l) (S p) i t u v k r h0) hQ
theorem index3_raises {l p : List Nat} {i : Nat} {t u v : Tok} (hA : A.handled = none) (h : firstAt l p i = none) (hE : ∀ h' tk e, Heap.NewExc s.heap h' e "ValueError" → E (.ref e) { s with heap := h', toks := tk }) :
    wpAny (model PF w) A (call (.builtin "str.index") [.str (S l) t, .str (S p) u, .int (i : Int) v]) Q E s := by
  have h0 : Builtin.Str.occurrences (S l) (S p) (fromIndex (S l).length (i : Int)) (S l).length 1 = [] := by
    rw [fromIndex_nat, S_length]
    unfold firstAt at h
    split at h
    · cases h
    · rename_i e; exact e
  exact call_meets F.slot_str_index (typeIs_str _ _ _) F.entry_str_index (F.args_str_index_3 _ _ _) (raises_str_index_from (S l) (S p) i t u v h0) ⟨hA, hE⟩
end
end
section
/-- all is kept but what stands at x, and the slots of the frames fs -/
noncomputable def Af (fs x : List Addr) (h h' : Heap) : Prop := ∀ b o, h.get? b = some o → b ∉ x → (b ∉ fs → h'.get? b = some o) ∧ ∃ sl, h'.get? b = some { o with slots := sl }
theorem Af.of_kp {fs x : List Addr} {h h' : Heap} (k : KpH h h') : Af fs x h h' := fun b o e _ => ⟨fun _ => k b o e, o.slots, k b o e⟩
theorem Af.trans {fs x : List Addr} {h h' h'' : Heap} (a : Af fs x h h') (b : Af fs x h' h'') : Af fs x h h'' := fun c o e hx => by
  obtain ⟨a1, sl, a2⟩ := a c o e hx
  obtain ⟨_, sl', b2⟩ := b c _ a2 hx
  exact ⟨fun hf => (b c o (a1 hf) hx).1 hf, sl', b2⟩
theorem Af.mono {fs x gs y : List Addr} {h h' : Heap} (a : Af fs x h h') (hf : ∀ b ∈ fs, b ∈ gs) (hx : ∀ b ∈ x, b ∈ y) : Af gs y h h' := fun b o e hb => by
  obtain ⟨a1, a2⟩ := a b o e fun q => hb (hx b q)
  exact ⟨fun hg => a1 fun q => hg (hf b q), a2⟩
theorem Af.less {fs x y : List Addr} {h h' : Heap} (a : Af fs y h h') (hx : ∀ b ∈ y, b ∈ x ∨ h.get? b = none) : Af fs x h h' := fun b o e hb =>
  a b o e fun q => (hx b q).elim hb fun r => by rw [e] at r; cases r
theorem Af.lessF {fs gs x : List Addr} {h h' : Heap} (a : Af gs x h h') (hx : ∀ b ∈ gs, b ∈ fs ∨ h.get? b = none) : Af fs x h h' := fun b o e hb => by
  obtain ⟨a1, a2⟩ := a b o e hb
  exact ⟨fun hf => a1 fun q => (hx b q).elim hf fun r => (by rw [e] at r; cases r), a2⟩
/-- what comes before -/
theorem Af.after {fs x : List Addr} {h0 h h' : Heap} (k : KpH h0 h) (a : Af fs x h h') : Af fs x h0 h' := fun b o e hb => a b o (k b o e) hb
theorem Af.stays {fs x : List Addr} {base h h' : Heap} (a : Af fs x h h') (st : base.StaysIn h) (hf : ∀ b ∈ fs, base.get? b = none) (hx : ∀ b ∈ x, base.get? b = none) : base.StaysIn h' := fun b o e =>
  (a b o (st b o e) fun q => by rw [hx b q] at e; cases e).1 fun q => by rw [hf b q] at e; cases e
theorem Af.frames {fs x : List Addr} {base h h' : Heap} {l : List Env} (a : Af fs x h h') (fr : h.FunFrames base l) (hx : ∀ b ∈ x, ∀ o, h.get? b = some o → ∃ vs, o.data = .fields vs) : h'.FunFrames base l :=
  fr.of_keeps fun b o e hd => by
    obtain ⟨_, sl, e'⟩ := a b o e fun q => (hx b q o e).elim fun vs r => hd vs r
    exact ⟨_, e', rfl⟩
theorem Af.seq {fs x : List Addr} {h h' : Heap} (a : Af fs x h h') (hfs : ∀ b ∈ fs, ∀ o, h.get? b = some o → ∃ es ep, o.data = .dict es ep) {b : Addr} {o : Obj} (e : h.get? b = some o) (hx : b ∉ x) (hd : ∀ es ep, o.data ≠ .dict es ep) : h'.get? b = some o :=
  (a b o e hx).1 fun q => by obtain ⟨es, ep, r⟩ := hfs b q o e; exact hd es ep r

/-- an exception and the last entry of its traceback -/
noncomputable def EntryAt (h : Heap) (e : Addr) (cls : Value) (vs : Array Value) (T : Addr) (x : Value) : Prop :=
  ∃ oe oT ts L, h.get? e = some oe ∧ oe.cls = cls ∧ oe.data = .fields vs ∧ vs[1]? = some (.ref T) ∧ T ≠ e ∧ h.get? T = some oT ∧ oT.data = .fields ts ∧ ts[1]? = some (.ref L) ∧ ts[3]? = some x
theorem EntryAt.keeps {h h' : Heap} {e T : Addr} {cls x : Value} {vs : Array Value} (E : EntryAt h e cls vs T x) (k : ∀ b o, (b = e ∨ b = T) → h.get? b = some o → h'.get? b = some o) : EntryAt h' e cls vs T x := by
  obtain ⟨oe, oT, ts, L, a, b, c, d, f, g, r⟩ := E
  exact ⟨oe, oT, ts, L, k _ _ (.inl rfl) a, b, c, d, f, k _ _ (.inr rfl) g, r⟩
section
variable {M : Model} {A : Around} {E : Value → Shared → Prop} {s : Shared}
theorem note_raw {base : Heap} {env : Env} {outer : List Env} {L e : Addr} {oe : Obj} {vs : Array Value} {head : Value} {hadNext : Bool} {Q : Unit → Shared → Prop}
    (hfr : A.frames = some (env :: outer)) (hl : s.heap.FunFrames base (env :: outer)) (hf : env.frame = some L) (he : s.heap.get? e = some oe) (hd : oe.data = .fields vs) (hsz : 1 < vs.size)
    (h : ∀ h' T, Af ((env :: outer).filterMap (·.frame)) [e] s.heap h' → s.heap.get? T = none → EntryAt h' e oe.cls (vs.setIfInBounds 1 (.ref T)) T (rawInt L) → Q () { s with heap := h' }) :
    wpAny M A (do let a ← frameOf env; let pl ← entryPlaceOf L hadNext; let b ← EntryCells.newEntry head a .none (rawInt L) .none pl; setField (.ref e) 1 b) Q E s := by
  have hene : e ∉ (env :: outer).filterMap (·.frame) := fun hm => by
    obtain ⟨_, o, ho, hnf⟩ := hl.mem hm
    rw [he] at ho; injection ho with ho; subst ho; exact hnf vs hd
  refine wpAny_bind (wpAny_frameOf_fun hfr hl hf fun g hs => ?_)
  refine wpAny_bind (wpAny_entryPlaceOf fun pl hpl => ?_)
  unfold EntryCells.newEntry newFields
  refine wpAny_bind (wpAny_newObj_type ?_ (hpl.sizeOk5 _ _ _ _ _))
  have he1 : g.get? e = some oe := (hs.2.1 e hene).trans he
  have he2 := Heap.get?_push_of_some (h := g) { cls := .type "traceback", dict := none, data := .fields ([head, .ref L, .none, rawInt L, .none] ++ (if pl.isEmpty then List.replicate 6 Value.none else pl)).toArray } he1
  have hTe : g.objs.size ≠ e := Nat.ne_of_gt (Heap.lt_size he1)
  have hd3 := Obj.data_mapFields hd (·.setIfInBounds 1 (Value.ref g.objs.size))
  have he3 := Heap.get?_update_self (Obj.mapFields (·.setIfInBounds 1 (Value.ref g.objs.size))) he2 (Obj.isFreed_of_fields hd3)
  have hT3 := (Heap.get?_update_other (g.push { cls := .type "traceback", dict := none, data := .fields ([head, .ref L, .none, rawInt L, .none] ++ (if pl.isEmpty then List.replicate 6 Value.none else pl)).toArray })
    (Obj.mapFields (·.setIfInBounds 1 (Value.ref g.objs.size))) (Ne.symm hTe)).trans (Heap.get?_push_size g rfl)
  refine wpAny_setField he2 hd hsz (h _ g.objs.size ?_ ?_ ?_)
  · intro b o hb hbx
    have hbe : b ≠ e := by simpa using hbx
    have keep : ∀ o, g.get? b = some o → ((g.push { cls := .type "traceback", dict := none, data := .fields ([head, .ref L, .none, rawInt L, .none] ++ (if pl.isEmpty then List.replicate 6 Value.none else pl)).toArray }).update e (Obj.mapFields (·.setIfInBounds 1 (Value.ref g.objs.size)))).get? b = some o := fun o hb => by
      rw [Heap.get?_update_other _ _ (Ne.symm hbe)]
      exact Heap.get?_push_of_some _ hb
    obtain ⟨sl, hsl⟩ := hs.2.2 b o hb
    exact ⟨fun hf => keep o ((hs.2.1 b hf).trans hb), sl, keep _ hsl⟩
  · exact Heap.get?_none_of_le (by show s.heap.objs.size ≤ g.objs.size; rw [hs.1]; exact Nat.le_refl _)
  · exact ⟨_, _, _, L, he3, Obj.cls_mapFields _ _, hd3, by simp [hsz], hTe, hT3, rfl, by simp, by simp⟩
/-- a new exception is noted in the frame where it was raised -/
theorem note_first {base : Heap} {env : Env} {outer : List Env} {L e : Addr} {oe : Obj} {vs : Array Value} {Q : Unit → Shared → Prop}
    (hfr : A.frames = some (env :: outer)) (hl : s.heap.FunFrames base (env :: outer)) (hf : env.frame = some L) (he : s.heap.get? e = some oe) (hd : oe.data = .fields vs) (h1 : vs[1]? = some .none)
    (h : ∀ h' T, Af ((env :: outer).filterMap (·.frame)) [e] s.heap h' → s.heap.get? T = none → EntryAt h' e oe.cls (vs.setIfInBounds 1 (.ref T)) T (rawInt L) → Q () { s with heap := h' }) :
    wpAny M A (noteFrame (.ref e) env) Q E s := by
  unfold noteFrame
  simp only [hf]
  refine wpAny_bind (wpAny_field he hd h1 ?_)
  rw [if_neg (by decide)]
  exact note_raw hfr hl hf he hd (Array.getElem?_eq_some_iff.mp h1).1 h
/-- an exception that comes from a call is noted -/
theorem note_next {base : Heap} {env : Env} {outer : List Env} {L e T : Addr} {cls : Value} {vs : Array Value} {Q : Unit → Shared → Prop}
    (hfr : A.frames = some (env :: outer)) (hl : s.heap.FunFrames base (env :: outer)) (hf : env.frame = some L) (ht : EntryAt s.heap e cls vs T .none)
    (h : ∀ h' T', Af ((env :: outer).filterMap (·.frame)) [e, T] s.heap h' → s.heap.get? T' = none → EntryAt h' e cls (vs.setIfInBounds 1 (.ref T')) T' (rawInt L) → Q () { s with heap := h' }) :
    wpAny M A (noteFrame (.ref e) env) Q E s := by
  obtain ⟨oe, oT, ts, L', he, hcls, hd, h1, hTe, hT, hdT, hT1, h3⟩ := ht
  subst hcls
  unfold noteFrame
  simp only [hf]
  refine wpAny_bind (wpAny_field he hd h1 ?_)
  rw [if_pos (show (Value.ref T != Value.none) = true from by simp)]
  refine wpAny_bind (wpAny_field hT hdT h3 ?_)
  rw [if_neg (show ¬ ((Value.none == rawInt L) = true) from by simp [rawInt])]
  refine wpAny_bind (wpAny_setField hT hdT (Array.getElem?_eq_some_iff.mp h3).1 ?_)
  have other : ∀ b, b ≠ T → (s.heap.update T (Obj.mapFields (·.setIfInBounds 3 Value.none))).get? b = s.heap.get? b := fun b hb => Heap.get?_update_other _ _ (Ne.symm hb)
  have aT : Af ((env :: outer).filterMap (·.frame)) [e, T] s.heap (s.heap.update T (Obj.mapFields (·.setIfInBounds 3 Value.none))) := fun b o hb hx => by
    have := (other b (by simp at hx; exact hx.2)).trans hb
    exact ⟨fun _ => this, o.slots, this⟩
  refine note_raw hfr (hl.of_keeps fun b o hb hnf => ⟨o, (other b fun q => by rw [q, hT] at hb; injection hb with hb; subst hb; exact hnf ts hdT).trans hb, rfl⟩) hf ((other e (Ne.symm hTe)).trans he) hd (Array.getElem?_eq_some_iff.mp h1).1 fun h' T' a hn t => h h' T' (aT.trans (a.mono (fun _ q => q) (by simp))) ?_ t
  cases q : s.heap.get? T' with
  | none => rfl
  | some o =>
    by_cases hq : T' = T
    · subst hq
      rw [Heap.get?_update_self _ hT (Obj.isFreed_of_fields (Obj.data_mapFields hdT _))] at hn; cases hn
    · rw [other T' hq, q] at hn; cases hn
/-- noted already, in flight here -/
theorem note_here {env : Env} {L e T : Addr} {cls : Value} {vs : Array Value} {Q : Unit → Shared → Prop} (hf : env.frame = some L) (ht : EntryAt s.heap e cls vs T (rawInt L)) (h : Q () s) : wpAny M A (noteFrame (.ref e) env) Q E s := by
  obtain ⟨oe, oT, ts, L', he, hcls, hd, h1, hTe, hT, hdT, hT1, h3⟩ := ht
  exact wpAny_noteFrame_inFlight hf he hd h1 hT hdT h3 h
theorem flight {e T : Addr} {cls x : Value} {vs : Array Value} {f : Option Addr} {Q : Unit → Shared → Prop} (ht : EntryAt s.heap e cls vs T x)
    (h : ∀ h', Af [] [T] s.heap h' → EntryAt h' e cls vs T (f.elim .none fun f => rawInt f) → Q () { s with heap := h' }) : wpAny M A (setFlight (.ref e) f) Q E s := by
  obtain ⟨oe, oT, ts, L', he, hcls, hd, h1, hTe, hT, hdT, hT1, h3⟩ := ht
  unfold setFlight
  refine wpAny_bind (wpAny_field he hd h1 ?_)
  rw [if_pos (show (Value.ref T != Value.none) = true from by simp)]
  have h3s := (Array.getElem?_eq_some_iff.mp h3).1
  have other : ∀ b, b ≠ T → (s.heap.update T (Obj.mapFields (·.setIfInBounds 3 (f.elim .none fun f => rawInt f)))).get? b = s.heap.get? b := fun b hb => Heap.get?_update_other _ _ (Ne.symm hb)
  refine wpAny_setField hT hdT h3s (h _ (fun b o hb hx => ?_) ⟨oe, _, _, L', (other e (Ne.symm hTe)).trans he, hcls, hd, h1, hTe, Heap.get?_update_self _ hT (Obj.isFreed_of_fields (Obj.data_mapFields hdT _)), Obj.data_mapFields hdT _, ?_, ?_⟩)
  · have := (other b (by simpa using hx)).trans hb
    exact ⟨fun _ => this, o.slots, this⟩
  · rw [Array.getElem?_setIfInBounds_ne (by decide)]; exact hT1
  · simp [h3s]
end
end
section
/-- the heap without the code table that grows -/
noncomputable abbrev gho (h : Heap) : Heap := hideAll h [200]
noncomputable abbrev ghoS (s : Shared) : Shared := { s with heap := gho s.heap }
theorem gho_get {h : Heap} {b : Addr} {o : Obj} (e : h.get? b = some o) (hb : b ≠ 200) : (gho h).get? b = some o := hideAll_get _ e (by simpa using hb)
theorem gho_none {h : Heap} : (gho h).get? 200 = none := hideAll_none _ (by simp)
theorem gho_of {h : Heap} {b : Addr} {o : Obj} (e : (gho h).get? b = some o) : h.get? b = some o := of_hideAll _ e
theorem gho_size {h : Heap} : (gho h).objs.size = h.objs.size := hideAll_size _ _
theorem no200 (P : Params) : (KXF P).lookup 200 = none := by kernel_rfl
theorem XAt.gho {w : World} {h : Heap} (X : XAt w h) : XAt w (gho h) := by
  obtain ⟨h1, es, ep, t, hg, h2⟩ := X
  refine ⟨fun a o e => gho_get (h1 a o e) fun q => ?_, es, ep, t, hg, gho_get h2 (by decide)⟩
  subst q
  rw [no200] at e; cases e
noncomputable def posCR : Pos := ⟨184, 4, 192, 46⟩
noncomputable def qCR : Str := Str.ofString "suffixed_err" ++ ".<locals>." ++ Str.ofString "coord_repr"
/-- the code table of suffixed_err -/
noncomputable def TabQ (h : Heap) : Prop := CodeHd h 204 200 ∧ ∃ ps, h.get? 200 = some (tabObj ps) ∧ TriplesOk ps.toList ∧ (codeAmong posCR ps.toList = none ∨ ∃ c', codeAmong posCR ps.toList = some (.ref c') ∧ h.CodeRec (.ref c') qCR)
theorem TabQ.keeps {h h' : Heap} (x : TabQ h) (k : KpH h h') : TabQ h' := by
  obtain ⟨c, ps, e, t, r⟩ := x
  exact ⟨c.keeps k, ps, k _ _ e, t, r.imp id fun ⟨c', a, b⟩ => ⟨c', a, b.keeps k⟩⟩
/-- fields objects are kept -/
theorem TabQ.but {h h' : Heap} (x : TabQ h) (k : ∀ b o vs, h.get? b = some o → o.data = .fields vs → (b = 204 ∨ b = 200 ∨ ∃ u t, vs[1]? = some (.str u t)) → h'.get? b = some o) : TabQ h' := by
  obtain ⟨⟨o, vs, file, tf, flags, tg, inF, text, tt, e, d1, d2, r'⟩, ps, e2, t, r⟩ := x
  refine ⟨⟨o, vs, file, tf, flags, tg, inF, text, tt, k _ _ _ e d2 (.inl rfl), d1, d2, r'⟩, ps, k _ _ _ e2 rfl (.inr (.inl rfl)), t, r.imp id ?_⟩
  rintro ⟨c', a, c2, o2, vs2, t2, e3, g2, d3, r2⟩
  cases e3
  exact ⟨c', a, c', o2, vs2, t2, rfl, k _ _ _ g2 d3 (.inr (.inr ⟨_, _, r2⟩)), d3, r2⟩
theorem b_main {P : Params} : nsFind (esMain P) "__builtins__" = some (.ref 4) := by kernel_rfl
noncomputable def isMod (o : Obj) : Bool := o.cls == .type "module" && o.dict == some builtinsNs && (match o.data with | .plain => true | _ => false)
theorem isMod_of {o : Obj} (h : isMod o = true) : o.cls = .type "module" ∧ o.dict = some builtinsNs ∧ o.data = .plain := by
  unfold isMod at h
  simp only [Bool.and_eq_true, beq_iff_eq] at h
  refine ⟨h.1.1, h.1.2, ?_⟩
  have := h.2
  split at this
  · assumption
  · cases this
theorem bui_at {w : World} {h : Heap} (X : XAt w h) : h.BuiltinsAt (nsFind (esMain w.params)) 200 := by
  obtain ⟨o, ho, hm⟩ : ∃ o, (KXF w.params).lookup 4 = some o ∧ isMod o = true := ⟨boot_o_4 w.params, by kernel_rfl, by kernel_rfl⟩
  obtain ⟨h1, h2, h3⟩ := isMod_of hm
  exact ⟨4, o, b_main, by decide, by decide, by decide, X.1 _ _ ho, h1, h2, h3⟩
section
variable {w : World} {A : Around} {env : Env} {s0 : Shared} {m cm : List (Str × PV)} {R : Flow → Shared → Prop} {ss : List Stmt}
theorem kept_off (g : Heap) (hc : env.cells = []) : Stable env (fun h => ∀ b o, g.get? b = some o → b ≠ env.locals → h.get? b = some o) := by
  refine ⟨(List.range g.objs.size).filter (fun b => (g.get? b).isSome && b != env.locals), fun b hb => ?_, fun h z b hb => ?_, fun h h' z k b o e hb => ?_⟩
  · simp only [List.mem_filter, Bool.and_eq_true, bne_iff_ne, ne_eq] at hb
    refine ⟨?_, by simp⟩
    rintro (q | ⟨n, q⟩)
    · exact hb.2.2 q
    · rw [hc] at q; simp at q
  · simp only [List.mem_filter, Bool.and_eq_true, bne_iff_ne, ne_eq] at hb
    obtain ⟨o, e⟩ := Option.isSome_iff_exists.mp hb.2.1
    exact ⟨o, z b o e hb.2.2⟩
  · refine (k b ?_).trans (z b o e hb)
    simp only [List.mem_filter, Bool.and_eq_true, bne_iff_ne, ne_eq, List.mem_range]
    exact ⟨Heap.lt_size e, by rw [e]; rfl, hb⟩

/-- the def within suffixed_err -/
theorem nest_def {sb : Shared} {name : Str} {params : Arguments} {body : List Stmt} {scope : Scope} {pos : Pos} {s : Shared} (hd0 : params.defaults = []) (hk0 : params.kw_defaults = []) (ha : annTrees params none env = []) (hq : qualnameIn env name name = qCR) (hp : codeAmong pos = codeAmong posCR)
    (hcl : closureFor scope env = pure []) (hge : env.globals = mainGlobals) (hcode : env.code = .ref 204) (hl : env.kindOf name = some .local) (hk : env.scope.kind = .function) (hce : env.cells = [])
    (hp2 : pos.line = posCR.line ∧ pos.col = posCR.col)
    (F : FIP w sb env m [] (fun _ => True) s) (T : TabQ s.heap) (h200 : sb.heap.get? 200 = none) (hfl : ∀ p ∈ m, Flat p.2 = true)
    (h : ∀ f c' ctv doc pm g (hz : Stable env (fun h => ∀ b o, g.get? b = some o → b ≠ env.locals → h.get? b = some o)), (∃ mv, g.Ns env.locals mv) → f ≠ env.locals → g.get? f = some (fnMade name qCR params body scope [] doc pm c' ctv) → g.CodeRec (.ref c') qCR → TabQ g →
      SX w A env (FI w sb env ((name, .val (.ref f)) :: m) [] (fun h => ∀ b o, g.get? b = some o → b ≠ env.locals → h.get? b = some o) hz) ss R) :
    wpAny (model PF w) A (execs (.FunctionDef name params body [] none [] scope none name pos :: ss) env) R No s := by
  have X : XAt w s.heap := FIP.xat F
  have hg := main_ns X
  obtain ⟨C, ps, hP, ht, hc⟩ := T
  obtain ⟨mv, n, r⟩ := F.loc
  have hL : env.locals ≠ 200 := fun q => by
    obtain ⟨o, es, ep, e, d, _⟩ := n
    rw [q, hP] at e; cases e; cases d
  have fin : ∀ (g : Heap) (tk : Tok) (f c' : Addr) (ctv doc pm : Value), Heap.ExtBut 200 s.heap g → g.get? f = some (fnMade name qCR params body scope [] doc pm c' ctv) → s.heap.get? f = none → g.CodeRec (.ref c') qCR → TabQ g →
      wpAny (model PF w) A (storeName env name (.ref f)) (fun _ s'' => wpAny (model PF w) A (execs ss env) R No s'') No { s with heap := g, toks := tk } := fun g tk f c' ctv doc pm hx hf hfn hrec hT => by
    have hfL : f ≠ env.locals := fun q => by
      obtain ⟨o, es, ep, e, d, _⟩ := n
      rw [← q, hfn] at e; cases e
    have F' : FIP w sb env m [] (fun h => ∀ b o, g.get? b = some o → b ≠ env.locals → h.get? b = some o) { s with heap := g, toks := tk } := by
      refine ⟨F.x, ?_, F.up, ⟨mv, n.extBut hx hL, fun x pv e => let ⟨v, a, b⟩ := r x pv e; ⟨v, a, b.flat (hfl _ (mem_of_lookup e))⟩⟩, ?_, fun b o e _ => e⟩
      · obtain ⟨hh, tk', e, kk⟩ := F.kp
        subst e
        exact ⟨g, tk, rfl, fun b o e => hx b o (fun q => by rw [q, h200] at e; cases e) (kk b o e)⟩
      · obtain ⟨cv, Y, rc⟩ := F.cel
        refine ⟨cv, ⟨fun n c e => ?_, Y.apart, Y.above⟩, fun x pv e => by cases e⟩
        rw [hce] at e; cases e
    have hz := kept_off (env := env) g hce
    exact SX.store F' hz (pv := .val (.ref f)) (by simp only [Rep]) hl hk fun s'' F'' _ => h f c' ctv doc pm g hz ⟨mv, n.extBut hx hL⟩ hfL hf hrec hT s'' F''
  have hgP : mainGlobals ≠ 200 := by decide
  refine wpAny_execs_cons (nestDef_K hd0 hk0 ha ?_)
  rw [hq]
  rcases hc with hn | ⟨c', hh, hrec⟩
  · refine makeFunction_K (mg := nsFind (esMain w.params)) hcl hge hg hcode C hP ht (by rw [hp]; exact hn) hgP (bui_at X) fun c' ctv doc h' tk hx hge' hlt hrec htb => ?_
    refine fin _ _ _ c' ctv doc _ (fun b o hb e => Heap.get?_push_of_some _ (hx b o hb e)) (Heap.get?_push_size _ rfl) ?_ (hrec.push _) ⟨(C.keeps (h' := s.heap) fun _ _ e => e) |> fun C => ?_, _, Heap.get?_push_of_some _ htb, ?_, .inr ⟨c', ?_, hrec.push _⟩⟩
    · cases q : s.heap.get? h'.objs.size with
      | none => rfl
      | some o =>
        by_cases h2 : h'.objs.size = 200
        · have := Heap.lt_size htb; rw [h2] at this; exact absurd this (Nat.lt_irrefl _)
        · exact absurd (Heap.lt_size (hx _ _ h2 q)) (Nat.lt_irrefl _)
    · obtain ⟨o, vs, file, tf, flags, tg, inF, text, tt, e, r'⟩ := C
      exact ⟨o, vs, file, tf, flags, tg, inF, text, tt, Heap.get?_push_of_some _ (hx _ _ (by decide) e), r'⟩
    · rw [Array.toList_append]
      exact TriplesOk_snoc _ _ _ _ ht
    · rw [Array.toList_append, hp2.1, hp2.2]
      exact codeAmong_snoc (pos := posCR) _ ht hn
  · refine makeFunction_hit (mg := nsFind (esMain w.params)) hcl hge hg hcode C hP ht (by rw [hp]; exact hh) (bui_at X) fun ctv doc h' tk hk hsz => ?_
    refine fin _ _ _ c' ctv doc _ (fun b o hb e => Heap.get?_push_of_some _ (hk b o e)) (Heap.get?_push_size _ rfl) ?_ ((hrec.keeps hk).push _) ⟨C.keeps fun b o e => Heap.get?_push_of_some _ (hk b o e), ps, Heap.get?_push_of_some _ (hk _ _ hP), ht, .inr ⟨c', hh, (hrec.keeps hk).push _⟩⟩
    cases q : s.heap.get? h'.objs.size with
    | none => rfl
    | some o => exact absurd (Heap.lt_size (hk _ _ q)) (Nat.lt_irrefl _)
end
end
section
noncomputable abbrev bmV : List Value := [.type "ValueError", .type "Exception", .type "BaseException", .type "object"]
noncomputable abbrev tomlO : Obj := excClassObj (Str.ofString "TOMLDecodeError") (Str.ofString "TOMLDecodeError") 181 180 [.type "ValueError"] bmV true [] [] false none none (some (.ref 172)) none (some (.str (Str.ofString "TOMLDecodeError") 471)) (some (.str (Str.ofString "TOMLDecodeError") 479)) (some (.bool true)) "ValueError.__new__"
theorem toml_obj (P : Params) : (KXF P).lookup 181 = some tomlO := by kernel_rfl
noncomputable def esToml (P : Params) : Array DictEntry := match (Mine.suf.o_185 P).data with | .dict es _ => es | _ => #[]
theorem toml_ns {w : World} {h : Heap} (X : XAt w h) : h.Ns 180 (nsFind (esToml w.params)) :=
  ns_of X (Mine.suf.o_185 w.params) _ (by kernel_rfl) (by kernel_rfl) (by kernel_rfl)
theorem toml_init {P : Params} : nsFind (esToml P) "__init__" = none := by kernel_rfl
theorem g_toml {P : Params} : nsFind (esMain P) (Str.ofString "TOMLDecodeError") = some (.ref 181) := by kernel_rfl

section
variable {w : World} {A : Around} {env : Env} {I : Inv}
theorem EV.fmt {e : Expr} {pos : Pos} {x : Str} (h : EV w A env I e (.str x)) (hx : x.length ≤ sizeLine) : EV w A env I (.FormattedValue e (-1) Option.none pos) (.str x) := fun s F =>
  FormattedValue_plain (h.use F fun v s' r k F' => by
    simp only [Rep] at r; obtain ⟨t, rfl⟩ := r
    exact formatField_str (fun t' tk => ⟨rep_str, kp_trans k (kp_toks _ _)⟩) hx)
theorem EV.fmtRepr {e : Expr} {pos : Pos} {x : Str} (h : EV w A env I e (.str x)) (hx : (reprText x).length ≤ sizeLine) : EV w A env I (.FormattedValue e 114 Option.none pos) (.str (reprText x)) := fun s F =>
  wpAny_FormattedValue_repr (h.use F fun v s' r k F' => by
    simp only [Rep] at r; obtain ⟨t, rfl⟩ := r
    exact wpAny_pyReprObj_str (formatField_str (fun t' tk => ⟨rep_str, kp_trans k (kp_toks _ _)⟩) hx) hx)
theorem EV.joined2 {a b : Expr} {pos : Pos} {x y : Str} (ha : EV w A env I a (.str x)) (hb : EV w A env I b (.str y)) (hsz : x.length + y.length ≤ sizeLine)
    (he : evalEach [] env = [] := by rfl) (he2 : evalEach [b] env = eval b env :: evalEach [] env := by rfl) : EV w A env I (.JoinedStr [a, b] pos) (.str (Str.empty ++ x ++ y)) := fun s F => by
  have e1 : (Str.empty ++ x).length = x.length := by rw [Str.empty_append]
  have e2 : (Str.empty ++ x ++ y).length = x.length + y.length := by rw [Str.length_append, e1]
  refine JoinedStr_many (joinParts_cons (ha.use F fun v s' r k F' => ?_))
  simp only [Rep] at r; obtain ⟨t, rfl⟩ := r
  refine ⟨by rw [e1]; omega, joinParts_cons (hb.use F' fun v s2 r2 k2 F2 => ?_)⟩
  simp only [Rep] at r2; obtain ⟨t2, rfl⟩ := r2
  refine ⟨by rw [e2]; omega, ?_⟩
  rw [he]
  exact joinParts_nil ⟨rep_str, kp_trans k (kp_trans k2 (kp_toks _ _))⟩ (by rw [e2]; omega)
theorem EV.joined4 {a b c d : Expr} {pos : Pos} {x y z u : Str} (ha : EV w A env I a (.str x)) (hb : EV w A env I b (.str y)) (hc : EV w A env I c (.str z)) (hd : EV w A env I d (.str u)) (hsz : x.length + y.length + z.length + u.length ≤ sizeLine)
    (he : evalEach [c, d] env = [eval c env, eval d env] := by rfl) : EV w A env I (.JoinedStr [a, b, c, d] pos) (.str (Str.empty ++ x ++ y ++ z ++ u)) := fun s F => by
  have e1 : (Str.empty ++ x).length = x.length := by rw [Str.empty_append]
  have e2 : (Str.empty ++ x ++ y).length = x.length + y.length := by rw [Str.length_append, e1]
  have e3 : (Str.empty ++ x ++ y ++ z).length = x.length + y.length + z.length := by rw [Str.length_append, e2]
  have e4 : (Str.empty ++ x ++ y ++ z ++ u).length = x.length + y.length + z.length + u.length := by rw [Str.length_append, e3]
  refine JoinedStr_many (joinParts_cons (ha.use F fun v s' r k F' => ?_))
  simp only [Rep] at r; obtain ⟨t, rfl⟩ := r
  refine ⟨by rw [e1]; omega, joinParts_cons (hb.use F' fun v s2 r2 k2 F2 => ?_)⟩
  simp only [Rep] at r2; obtain ⟨t2, rfl⟩ := r2
  refine ⟨by rw [e2]; omega, ?_⟩
  rw [he]
  refine joinParts_cons (hc.use F2 fun v s3 r3 k3 F3 => ?_)
  simp only [Rep] at r3; obtain ⟨t3, rfl⟩ := r3
  refine ⟨by rw [e3]; omega, joinParts_cons (hd.use F3 fun v s4 r4 k4 F4 => ?_)⟩
  simp only [Rep] at r4; obtain ⟨t4, rfl⟩ := r4
  refine ⟨by rw [e4]; omega, ?_⟩
  exact joinParts_nil ⟨rep_str, kp_trans k (kp_trans k2 (kp_trans k3 (kp_trans k4 (kp_toks _ _))))⟩ (by rw [e4]; omega)
/-- a call of a def that a name holds -/
theorem EV.callloc {x : Str} {p pos : Pos} {e : Expr} {rest : List Expr} {pvs : List PV} {a : Addr} {res : PV} (hn : EV w A env I (.Name x p) (.val (.ref a))) (ha : EVs w A env I pos (e :: rest) pvs)
    (ho : ∃ o fd, o.data = .func fd ∧ ∀ s, I.P s → s.heap.get? a = some o) (hc : ∀ s vs, I.P s → RepL s.heap pvs vs → Pu w A (call (.ref a) vs) s res)
    (h1 : eval (.Call (.Name x p) (e :: rest) [] pos) env = (do callWith pos (← eval (.Name x p) env) [] (backTo pos (starEach (e :: rest) env)) (backToKw pos (keywordEach [] env))) := by rfl)
    (h2 : starEach (e :: rest) env = (false, eval e env) :: starEach rest env := by rfl) : EV w A env I (.Call (.Name x p) (e :: rest) [] pos) res := by
  obtain ⟨o, fd, hd, ho⟩ := ho
  exact fun s F => Call_ (hn.use F fun v s' r k F' => by
    simp only [Rep] at r; subst r
    exact callWith_def hd (no_mono (ha s' F') fun vs s'' x => ⟨ho s'' (I.mono _ _ F' x.2), (hc s'' vs (I.mono _ _ F' x.2) x.1).after (kp_trans k x.2)⟩) h2) h1
theorem Pu.body {a : Addr} {o : Obj} {fd : FuncData} {body : List Stmt} {args : List PV} {res : PV} {s : Shared} {vs : List Value} (names : List Str) (ml : List (Str × PV)) (hml : (names.zip args).reverse ++ [] = ml) (X : XAt w s.heap) (hr : RepL s.heap args vs) (hroom : A.depth < recursionLimit) (ho : s.heap.get? a = some o) (hdata : o.data = .func fd) (hcd : s.heap.CodeRec fd.code fd.qualname)
    (hbody : fd.body = .stmts body) (hclo : fd.closure = []) (hbind : ∀ vs, vs.length = args.length → bindArgs fd ⟨vs, []⟩ = pure (names.zip vs)) (hkind : ∀ x ∈ names, fd.scope.names.lookup x = some .local)
    (hco : fd.scope.isCoroutine = false) (hgen : fd.scope.isGenerator = false) (hk : fd.scope.kind = .function) (hZ : ∀ L, Stable (callEnvC fd L a) fun _ => True)
    (h : ∀ L, SX w (A.deeper (callEnvC fd L a)) (callEnvC fd L a) (FI w s (callEnvC fd L a) ml [] (fun _ => True) (hZ L)) body (fun f s' => ∃ v, f = .ret v ∧ Rep s'.heap res v ∧ Keeps s s')) : Pu w A (call (.ref a) vs) s res := by
  subst hml
  refine wpAny_call (codeAny_call_cells hroom ho hdata (no_limit X) hcd hbody (hbind vs (repL_len hr)) hclo (fun x hx => .inl (hkind x.1 (List.of_mem_zip hx).1)) (fun s₁ C => ?_) hco hgen hk)
  obtain ⟨h', tk, rfl, hkp⟩ := C.done
  refine wpAny_mono (h _ _ ⟨X, ⟨h', tk, rfl, hkp⟩, C.toInCall.fresh, ⟨_, C.toInCall.ns, ?_⟩, ⟨_, ⟨C.cell, C.apart, C.above⟩, fun x pv e => by cases e⟩, trivial⟩) (fun f s' x => ?_) fun _ _ x => x.elim
  · intro x pv e
    obtain ⟨v, h1, h2⟩ := bindL_of names vs args s.heap (fun _ => .none) [] hr (fun x pv e => by cases e) hkind x pv e
    exact ⟨v, h1, h2.keeps hkp⟩
  · obtain ⟨v, rfl, r, k⟩ := x
    exact ⟨r, k⟩
end

/-- what suffixed_err gives -/
noncomputable def NewToml (h h' : Heap) (v : Value) : Prop := ∃ e t, v = .ref e ∧ h.get? e = none ∧ h'.get? e = some { cls := .ref 181, data := .fields #[.ref t, .none, .none, .none, .bool false, .none] }
/-- a call of a def, entered by hand -/
theorem call_any {w : World} {A : Around} {s : Shared} {a : Addr} {o : Obj} {fd : FuncData} {body : List Stmt} {vals vs : List Value} {kw : List (Str × Value)} {args : List PV} {Q E : Value → Shared → Prop} (names : List Str) (ml : List (Str × PV)) (hml : (names.zip args).reverse ++ [] = ml) (X : XAt w s.heap) (hr : RepL s.heap args vs) (hroom : A.depth < recursionLimit) (ho : (KXF w.params).lookup a = some o) (hdata : o.data = .func fd) (hcd : codeIn (KXF w.params) fd.code fd.qualname = true)
    (hbody : fd.body = .stmts body) (hclo : fd.closure = []) (hbind : bindArgs fd ⟨vals, kw⟩ = pure (names.zip vs)) (hkind : ∀ x ∈ names, fd.scope.names.lookup x = some .local)
    (hco : fd.scope.isCoroutine = false) (hgen : fd.scope.isGenerator = false) (hk : fd.scope.kind = .function)
    (h : ∀ L s1, s.heap.get? L = none → Keeps s s1 → FIP w (ghoS s) (callEnvC fd L a) ml [] (fun _ => True) s1 →
      wpAny (model PF w) (A.deeper (callEnvC fd L a)) (execs body (callEnvC fd L a)) (fun f s' => ∃ v, f = .ret v ∧ Q v s')
        (fun e s' => wpAny (model PF w) (A.deeper (callEnvC fd L a)) («leaving» (callEnvC fd L a) e) (fun _ s'' => E e s'') (fun e' s'' => E e' s'') s') s1) :
    wpAny (model PF w) A (call (.ref a) vals kw) Q E s := by
  subst hml
  refine wpAny_call (codeAny_call_function hroom (X.1 _ _ ho) hdata hco hgen hbody (codeRec_of X.1 hcd) ?_)
  rw [hbind, hclo]
  refine wpAny_pure (wpAny_newFunctionEnv_cells hk (fun x hx => .inl (hkind x.1 (List.of_mem_zip hx).1)) fun env he s' C => ?_)
  subst he
  refine ⟨(no_limit X).keeps C.toInCall.keep, codeAny_func ?_⟩
  obtain ⟨h', tk, rfl, hkp⟩ := C.done
  refine wpAny_mono (h s.heap.objs.size _ (Heap.get?_none_of_le (Nat.le_refl _)) ⟨h', tk, rfl, hkp⟩ ⟨X.gho, ⟨h', tk, rfl, fun b o e => hkp b o (gho_of e)⟩, by rw [gho_size]; exact C.toInCall.fresh, ⟨_, C.toInCall.ns, ?_⟩, ⟨_, ⟨C.cell, C.apart, C.above⟩, fun x pv e => by cases e⟩, trivial⟩) (fun f s' x => ?_) fun e s' x => x
  · intro x pv e
    obtain ⟨v, h1, h2⟩ := bindL_of (k := (callEnvC fd s.heap.objs.size a).kindOf) names vs args s.heap (fun _ => .none) [] hr (fun x pv e => by cases e) hkind x pv e
    exact ⟨v, h1, h2.keeps hkp⟩
  · obtain ⟨v, rfl, q⟩ := x
    exact q
theorem call_toml {w : World} {A : Around} {env : Env} {I : Inv} {x : Str} {p pos : Pos} {e : Expr} {msg : Str} (hn : EV w A env I (.Name x p) (.val (.ref 181))) (he : EV w A env I e (.str msg)) (hI : I.Has w)
    (h1 : eval (.Call (.Name x p) [e] [] pos) env = (do callWith pos (← eval (.Name x p) env) [] (backTo pos (starEach [e] env)) (backToKw pos (keywordEach [] env))) := by rfl)
    (h2 : starEach [e] env = [(false, eval e env)] := by rfl) (s : Shared) (F : I.P s) : wpAny (model PF w) A (eval (.Call (.Name x p) [e] [] pos) env) (fun v s' => NewToml s.heap s'.heap v ∧ Keeps s s') No s :=
  Call_ (hn.use F fun v s1 r k1 F1 => by
    simp only [Rep] at r; subst r
    rw [h2]
    unfold callWith
    refine wpAny_bind (wpAny_holding (Calls.evalArgs_plain (Calls.spliced_cons (he.use F1 fun v s2 r2 k2 F2 => Calls.spliced_nil ?_))))
    refine wpAny_bind (wpAny_standAt ?_)
    have X := hI.x s2 F2
    have hC := X.1 _ _ (toml_obj w.params)
    have hk := kp_trans k1 k2
    obtain ⟨hp, g, d, tk, os⟩ := s2
    replace hC : hp.get? 181 = some tomlO := hC
    refine wpAny_bind (wpAny_keeperOf_exc hC ?_)
    refine wpAny_bind (wpAny_call_exc_sub PySem.F.excBase_ValueError hC (toml_ns X) toml_init (fun h' e' hm => wpAny_bind (wpAny_holding (wpAny_point (wpAny_pure ?_)))) (by show 1 ≤ 16777216; decide))
    obtain ⟨t, ht, _, _⟩ := hm.there
    refine ⟨⟨e', t, rfl, ?_, ht⟩, kp_trans hk ⟨h', tk, rfl, fun b o e => hm.keeps b o e⟩⟩
    cases q : s.heap.get? e' with
    | none => rfl
    | some o =>
      have := kp_heap hk _ _ q
      rw [show hp.get? e' = none from hm.new] at this; cases this) h1
theorem suffixed_err_wp {w : World} {A : Around} {s : Shared} {x msg : Str} {t1 t2 t3 : Tok} (hA : A.depth + 3 ≤ 900) (X : XAt w s.heap) (T : TabQ s.heap) (hx : x.length ≤ 1000) (hm : msg.length ≤ 100000) :
    wpAny (model PF w) A (call (.ref 205) [.str x t1, .int (x.length : Int) t2, .str msg t3]) (fun v s' => NewToml s.heap s'.heap v ∧ TabQ s'.heap ∧ (∀ b o, s.heap.get? b = some o → b ≠ 200 → s'.heap.get? b = some o) ∧ ∃ h' tk, s' = { s with heap := h', toks := tk }) No s := by
  have hd : (Mine.suf.o_210 w.params).data = .func _ := rfl
  have hr : RepL s.heap [.str x, .int (x.length : Int), .str msg] [.str x t1, .int (x.length : Int) t2, .str msg t3] := by
    simp only [RepL, Rep]
    exact ⟨_, _, rfl, ⟨_, rfl⟩, _, _, rfl, ⟨_, rfl⟩, _, _, rfl, ⟨_, rfl⟩, rfl⟩
  refine call_any [Str.ofString "src", Str.ofString "pos", Str.ofString "msg"] [(Str.ofString "msg", .str msg), (Str.ofString "pos", .int (x.length : Int)), (Str.ofString "src", .str x)] rfl X hr (by unfold recursionLimit; omega) (by kernel_rfl) hd (by kernel_rfl) rfl rfl rfl ?hk rfl rfl rfl fun L s1 hL k F => ?_
  case hk => decide +kernel
  refine no_mono (nest_def (R := fun f s' => ∃ v, f = .ret v ∧ NewToml s.heap s'.heap v ∧ TabQ s'.heap ∧ (∀ b o, s.heap.get? b = some o → b ≠ 200 → s'.heap.get? b = some o) ∧ ∃ h' tk, s' = { s with heap := h', toks := tk }) rfl rfl rfl (by kernel_rfl) (by rfl) (by rfl) rfl rfl (by kernel_rfl) rfl rfl ⟨rfl, rfl⟩ F (T.keeps (kp_heap k)) gho_none ?hfl fun f c' ctv doc pm g hz hgn hfL hf hrec hT => ?_) fun f s' q => q
  case hfl =>
    intro p hp
    simp only [List.mem_cons, List.not_mem_nil, or_false] at hp
    rcases hp with rfl | rfl | rfl <;> rfl
  have hfld : ∀ b o vs, g.get? b = some o → o.data = .fields vs → b ≠ L := fun b o vs e d q => by
    obtain ⟨mv, o3, es, ep, e3, d3, _⟩ := hgn
    subst q
    have e4 : g.get? b = some o3 := e3
    rw [e] at e4; cases e4
    rw [d] at d3; cases d3
  have hcr : ∀ (A' : Around) (s' : Shared) (vs : List Value), A'.depth ≤ 901 → XAt w s'.heap → (∀ b o, g.get? b = some o → b ≠ L → s'.heap.get? b = some o) → RepL s'.heap [.str x, .int (x.length : Int)] vs → Pu w A' (call (.ref f) vs) s' (.str (Str.ofString "end of document")) := by
    intro A' s' vs hA' X' hg' hr'
    refine Pu.body [Str.ofString "src", Str.ofString "pos"] [(Str.ofString "pos", .int (x.length : Int)), (Str.ofString "src", .str x)] rfl X' hr' (by unfold recursionLimit; omega) (hg' _ _ hf hfL) rfl ?hc rfl rfl (fun vs h => ?hb) ?hkk rfl rfl rfl (fun L => Stable.tt) fun L2 => ?_
    case hkk =>
      intro z hz
      simp only [List.mem_cons, List.not_mem_nil, or_false] at hz
      rcases hz with rfl | rfl <;> kernel_rfl
    case hc =>
      obtain ⟨c2, o2, vs2, t2, e2, g2, d2, r2⟩ := hrec
      cases e2
      exact ⟨c', o2, vs2, t2, rfl, hg' _ _ g2 (hfld _ _ _ g2 d2), d2, r2⟩
    case hb => obtain ⟨v, u, rfl⟩ := len2 h; rfl
    refine SX.if_ (b := true) ?_ (fun _ => ?_) (fun h => by cases h)
    · refine EB.cmp (a := .int (x.length : Int)) (b := .int (x.length : Int)) (by walk_at "ev") (EV.callbui (EV.bui FI.has b_len.1 b_len.2 (by kernel_rfl) (by kernel_rfl) (by kernel_rfl) (by kernel_rfl) (by kernel_rfl)) (EVs.cons (by walk_at "ev") EVs.nil rfl) (CallV.len_str (by omega))) (CmpV.as CmpV.ge_int (by simp))
    · exact SX.ret (pv := .str (Str.ofString "end of document")) (by walk_at "ev") fun s' v F r => ⟨v, rfl, r, FIP.kp F⟩
  intro s2 F2
  refine wpAny_execs_cons (wpAny_Return_some (no_mono (call_toml (msg := Str.empty ++ msg ++ Str.ofString " (at " ++ Str.ofString "end of document" ++ Str.ofString ")") (EV.glob FI.has g_toml ?a1 ?a2 ?a3 ?a4) (EV.joined4 (EV.fmt ?b1 ?b2) EV.str (EV.fmt (EV.callloc (a := f) (pvs := [.str x, .int (x.length : Int)]) ?c1 ?c2 ?c4 ?c3) ?b3) EV.str ?b4) FI.has rfl rfl s2 F2) fun v s3 q => ?_))
  case a1 => kernel_rfl
  case a2 => kernel_rfl
  case a3 => kernel_rfl
  case a4 => kernel_rfl
  case b1 => walk_at "ev"
  case b2 => show _ ≤ 16777216; omega
  case b3 => decide
  case b4 =>
    show _ ≤ 16777216
    simp only [show (Str.ofString " (at ").length = 5 from rfl, show (Str.ofString "end of document").length = 15 from rfl, show (Str.ofString ")").length = 1 from rfl]; omega
  case c1 => walk_at "ev"
  case c2 => walk_at "evs"
  case c4 => exact ⟨_, _, rfl, fun s' F' => FIP.z F' _ _ hf hfL⟩
  case c3 => exact fun s' vs F' r' => hcr _ s' vs (by show A.depth + 1 ≤ 901; omega) (FIP.xat F') (FIP.z F') r'
  obtain ⟨⟨e, t, rfl, hn, he⟩, k3⟩ := q
  have F3 := (FI w (ghoS s) _ [(Str.ofString "coord_repr", .val (.ref f)), (Str.ofString "msg", .str msg), (Str.ofString "pos", .int (x.length : Int)), (Str.ofString "src", .str x)] [] _ hz).mono _ _ F2 k3
  refine ⟨_, rfl, ⟨e, t, rfl, ?_, he⟩, hT.but fun b o vs e d _ => FIP.z F3 _ _ e (hfld _ _ _ e d), ?_⟩
  · cases q : s.heap.get? e with
    | none => rfl
    | some o =>
      by_cases h2 : e = 200
      · subst h2
        obtain ⟨_, ps, hP, _⟩ := hT
        have := FIP.z F2 _ _ hP (hfld _ _ _ hP rfl)
        rw [hn] at this; cases this
      · have := kp_heap (FIP.kp F2) e o (gho_get q h2)
        rw [hn] at this; cases this
  · obtain ⟨h', tk, rfl, kk⟩ := FIP.kp F3
    exact ⟨fun b o e hb => kk b o (gho_get e hb), h', tk, rfl⟩
end
section
/-- the first 258 objects -/
noncomputable def cutH (h : Heap) : Heap := ⟨h.objs.extract 0 258, h.life⟩
theorem cut_size (h : Heap) : (cutH h).objs.size ≤ 258 := by show (h.objs.extract 0 258).size ≤ 258; simp; omega
theorem cut_of {h : Heap} {b : Addr} {o : Obj} (e : (cutH h).get? b = some o) : h.get? b = some o := by
  rw [Heap.get?_some_iff] at e ⊢
  refine ⟨?_, e.2⟩
  have := e.1
  rw [show (cutH h).objs = h.objs.extract 0 258 from rfl, Array.getElem?_extract] at this
  split at this
  · simpa using this
  · cases this
theorem cut_get {h : Heap} {b : Addr} {o : Obj} (e : h.get? b = some o) (hb : b < 258) : (cutH h).get? b = some o := by
  have hl := Heap.lt_size e
  rw [Heap.get?_some_iff] at e ⊢
  refine ⟨?_, e.2⟩
  rw [show (cutH h).objs = h.objs.extract 0 258 from rfl, Array.getElem?_extract]
  split
  · simpa using e.1
  · rename_i hn
    exact absurd (show b < min 258 h.objs.size - 0 from by rw [Nat.sub_zero]; exact Nat.lt_min.mpr ⟨hb, hl⟩) hn
theorem kx_small (P : Params) : ((KXF P).all fun p => Nat.blt p.1 258) = true := by kernel_rfl
theorem XAt.cut {w : World} {h : Heap} (X : XAt w h) : XAt w (cutH h) := by
  obtain ⟨h1, es, ep, t, hg, h2⟩ := X
  refine ⟨fun a o e => cut_get (h1 a o e) ?_, es, ep, t, hg, cut_get h2 (by decide)⟩
  have := List.all_eq_true.mp (kx_small w.params) (a, o) (PySem.W.mem_of_lookupK e)
  exact Nat.blt_eq.mp this
theorem kx257 (P : Params) : (KXF P).lookup 257 = some (Mine.suf.o_265 P) := by kernel_rfl
theorem XAt.size {w : World} {h : Heap} (X : XAt w h) : 258 ≤ h.objs.size := Heap.lt_size (X.1 _ _ (kx257 w.params))

/-- where exceptions may fly: what is kept for good, and the frames -/
structure G (w : World) (base : Heap) (outer : List Env) (h : Heap) : Prop where
  xat : XAt w base
  n200 : base.get? 200 = none
  st : base.StaysIn h
  fr : h.FunFrames base outer
  tab : TabQ h
theorem G.x {w : World} {base h : Heap} {outer : List Env} (g : G w base outer h) : XAt w h := g.xat.keeps g.st
theorem G.keeps {w : World} {base h h' : Heap} {outer : List Env} (g : G w base outer h) (k : KpH h h') : G w base outer h' :=
  ⟨g.xat, g.n200, fun b o e => k b o (g.st b o e), g.fr.of_keeps fun b o e _ => ⟨o, k b o e, rfl⟩, g.tab.keeps k⟩
theorem TabQ.af {h h' : Heap} {fs x : List Addr} (T : TabQ h) (a : Af fs x h h') (hfs : ∀ b ∈ fs, ∀ o vs, h.get? b = some o → o.data ≠ .fields vs) (hx : ∀ b ∈ x, b ≠ 204 ∧ b ≠ 200 ∧ ∀ o vs, h.get? b = some o → o.data = .fields vs → ∀ u t, vs[1]? ≠ some (.str u t)) : TabQ h' :=
  T.but fun b o vs e d r => by
    refine (a b o e fun q => ?_).1 fun q => hfs b q o vs e d
    obtain ⟨h1, h2, h3⟩ := hx b q
    rcases r with r | r | ⟨u, t, r⟩
    · exact h1 r
    · exact h2 r
    · exact h3 o vs e d u t r
theorem frs_nofields {base h : Heap} {outer : List Env} (fr : h.FunFrames base outer) : ∀ b ∈ outer.filterMap (·.frame), ∀ o vs, h.get? b = some o → o.data ≠ .fields vs := fun b hb o vs e d => by
  obtain ⟨_, o', e', h'⟩ := fr.mem hb
  rw [e] at e'; cases e'
  exact h' vs d
theorem G.af {w : World} {base h h' : Heap} {outer : List Env} {x : List Addr} (g : G w base outer h) (a : Af (outer.filterMap (·.frame)) x h h') (hx : ∀ b ∈ x, base.get? b = none ∧ b ≠ 200 ∧ ∀ o, h.get? b = some o → ∃ vs, o.data = .fields vs ∧ ∀ u t, vs[1]? ≠ some (.str u t)) : G w base outer h' := by
  refine ⟨g.xat, g.n200, a.stays g.st (fun b hb => (g.fr.mem hb).1) fun b hb => (hx b hb).1, a.frames g.fr fun b hb o e => (let ⟨vs, d, _⟩ := (hx b hb).2.2 o e; ⟨vs, d⟩), g.tab.af a (frs_nofields g.fr) fun b hb => ⟨fun q => ?_, (hx b hb).2.1, fun o vs e d => ?_⟩⟩
  · subst q
    obtain ⟨⟨o, _, _, _, _, _, _, _, _, e, _⟩, _⟩ := g.tab
    have h2 := (hx 204 hb).1
    have h3 : (KXF w.params).lookup 204 = some (Mine.suf.o_209 w.params) := by kernel_rfl
    rw [g.xat.1 _ _ h3] at h2; cases h2
  · obtain ⟨vs', d', h'⟩ := (hx b hb).2.2 o e
    rw [d] at d'; cases d'
    exact h'
theorem EntryAt.x {h : Heap} {e T : Addr} {cls x : Value} {vs : Array Value} (E : EntryAt h e cls vs T x) : ∀ b, b = e ∨ b = T → ∀ o, h.get? b = some o → ∃ vs, o.data = .fields vs ∧ ∀ u t, vs[1]? ≠ some (.str u t) := by
  obtain ⟨oe, oT, ts, L, a, _, c, d, _, g, r, r1, _⟩ := E
  rintro b (rfl | rfl) o e
  · rw [a] at e; cases e
    exact ⟨vs, c, fun u t q => by rw [d] at q; cases q⟩
  · rw [g] at e; cases e
    exact ⟨ts, r, fun u t q => by rw [r1] at q; cases q⟩
section
variable {w : World} {A : Around} {env : Env} {m : List (Str × PV)}
/-- the frame after a change of the heap, seen from another base -/
theorem FIP.reb {s0 s : Shared} {base h' : Heap} {tk : Nat} {Z : Heap → Prop} (F : FIP w s0 env m [] Z s) (hce : env.cells = []) (X : XAt w base) (st : base.StaysIn h') (hup : base.objs.size ≤ env.locals)
    (hloc : ∀ o, s.heap.get? env.locals = some o → ∃ sl, h'.get? env.locals = some { o with slots := sl }) (hfl : ∀ p ∈ m, Flat p.2 = true) {Z' : Heap → Prop} (hz : Z' h') : FIP w { s with heap := base } env m [] Z' { s with heap := h', toks := tk } := by
  refine ⟨X, ⟨h', tk, rfl, st⟩, hup, ?_, ?_, hz⟩
  · obtain ⟨mv, ⟨o, es, ep, e, d, q⟩, r⟩ := F.loc
    obtain ⟨sl, e'⟩ := hloc o e
    exact ⟨mv, ⟨_, es, ep, e', d, q⟩, fun x pv e => let ⟨v, a, b⟩ := r x pv e; ⟨v, a, b.flat (hfl _ (mem_of_lookup e))⟩⟩
  · obtain ⟨cv, Y, rc⟩ := F.cel
    exact ⟨cv, ⟨fun n c e => (by rw [hce] at e; cases e), Y.apart, Y.above⟩, fun x pv e => by cases e⟩
end
section
variable {prog : Program} {w : World} {A : Around} {E : Value → Shared → Prop} {s : Shared} {env : Env}
theorem entry_unchain : entryFor table "proto.unchain" = some Builtin.«proto.unchain» := entryFor_of_tree (by kernel_rfl)
/-- raise .. from None, where another exception is handled -/
theorem raise_from_none {x c : Sem Value} {e1 : Addr} {Q : Flow → Shared → Prop} (hh : A.handled = some (.ref e1))
    (h : wpAny (model prog w) A x (fun v s1 => wpAny (model prog w) A c (fun cv s1 => cv = .none ∧ ∃ e t oe vs, v = .ref e ∧ e ≠ e1 ∧ s1.heap.get? 181 = some tomlO ∧ s1.heap.get? e1 = some oe ∧ oe.data = .fields vs ∧ vs[2]? = some .none ∧
      s1.heap.get? e = some { cls := .ref 181, data := .fields #[.ref t, .none, .none, .none, .bool false, .none] } ∧
      ∀ h', (∀ b o, b ≠ e → s1.heap.get? b = some o → h'.get? b = some o) → h'.get? e = some { cls := .ref 181, data := .fields #[.ref t, .none, .ref e1, .none, .bool true, .none] } → E (.ref e) { s1 with heap := h' }) E s1) E s) :
    wpAny (model prog w) A (raiseStmt env (some x) (some c)) Q E s := by
  have hcB : (Value.ref 181 :: bmV).contains (.type "BaseException") = true := by decide
  unfold raiseStmt
  refine wpAny_bind (wpAny_mono h (fun v s1 h1 => ?_) fun _ _ x => x)
  refine wpAny_bind (wpAny_holding (wpAny_mono h1 (fun cv s2 h2 => ?_) fun _ _ x => x))
  obtain ⟨rfl, e, t, oe, vs, rfl, hne, hC, he1, hd1, hv2, he, hE⟩ := h2
  obtain ⟨hp, g, d, tk, os⟩ := s2
  refine wpAny_bind (wpAny_pure ?_)
  repeat (first | with_reducible refine wpAny_loadPart_at he ?_ | with_reducible refine wpAny_loadPart_at hC ?_ | (with_reducible refine wpAny_isSubtype_exc hC ?_; rw [hcB]) | wp_step)
  have hne1 : (181 : Addr) ≠ e := fun q => by rw [q, show hp.get? e = some _ from he] at hC; cases hC
  have hC2 : ((hp.update e (Obj.mapFields (fun x => x.setIfInBounds 3 Value.none))).update e (Obj.mapFields (fun x => x.setIfInBounds 4 (Value.bool true)))).get? 181 = some tomlO := by
    rw [Heap.get?_update_other _ _ (Ne.symm hne1), Heap.get?_update_other _ _ (Ne.symm hne1)]; exact hC
  have he2 : ((hp.update e (Obj.mapFields (fun x => x.setIfInBounds 3 Value.none))).update e (Obj.mapFields (fun x => x.setIfInBounds 4 (Value.bool true)))).get? e = some { cls := .ref 181, data := .fields #[.ref t, .none, .none, .none, .bool true, .none] } := by
    rw [Heap.get?_update_self _ (Heap.get?_update_self _ he rfl) rfl]; rfl
  have he12 : ((hp.update e (Obj.mapFields (fun x => x.setIfInBounds 3 Value.none))).update e (Obj.mapFields (fun x => x.setIfInBounds 4 (Value.bool true)))).get? e1 = some oe := by
    rw [Heap.get?_update_other _ _ hne, Heap.get?_update_other _ _ hne]; exact he1
  repeat (first | with_reducible refine wpAny_loadPart_at hC2 ?_ | wp_step)
  unfold raiseNew
  refine wpAny_bind (wpAny_handled ?_)
  rw [hh]
  have hne' : (Value.ref e1 != Value.ref e) = true := by
    simp only [bne_iff_ne, ne_eq, Value.ref.injEq]; exact Ne.symm hne
  dsimp only
  rw [if_pos hne']
  refine wpAny_bind (wpAny_holding (wpAny_runValue (codeAny_builtin entry_unchain ?_)))
  refine wpAny_bind (wpAny_field he12 hd1 hv2 ?_)
  refine wpAny_pure ?_
  refine wpAny_bind (show wpAny _ _ (setField (.ref e) 2 (.ref e1)) _ _ _ from wpAny_setField he2 rfl (by show 2 < 6; decide) ?_)
  refine wpAny_throw (hE _ (fun b o hb eb => ?_) ?_)
  · rw [Heap.get?_update_other _ _ (Ne.symm hb), Heap.get?_update_other _ _ (Ne.symm hb), Heap.get?_update_other _ _ (Ne.symm hb)]; exact eb
  · rw [Heap.get?_update_self _ he2 rfl]; rfl
end
end
section
theorem Af.step {fs gs x y : List Addr} {h0 h h' : Heap} (a : Af fs x h0 h) (b : Af gs y h h') (hg : ∀ c ∈ gs, c ∈ fs) (hy : ∀ c ∈ y, c ∈ x ∨ h0.get? c = none) : Af fs x h0 h' := fun c o e hx => by
  obtain ⟨a1, sl, a2⟩ := a c o e hx
  have hcy : c ∉ y := fun q => (hy c q).elim hx fun r => by rw [e] at r; cases r
  obtain ⟨_, sl', b2⟩ := b c _ a2 hcy
  exact ⟨fun hf => (b c o (a1 hf) hcy).1 fun q => hf (hg c q), sl', b2⟩
theorem Af.stepK {fs x : List Addr} {h0 h h' : Heap} (a : Af fs x h0 h) (k : KpH h h') : Af fs x h0 h' := a.trans (Af.of_kp k)
theorem Af.fresh {fs x : List Addr} {h0 h : Heap} {c : Addr} (a : Af fs x h0 h) (e : h.get? c = none) (hx : c ∉ x) : h0.get? c = none := by
  cases q : h0.get? c with
  | none => rfl
  | some o => obtain ⟨_, sl, r⟩ := a c o q hx; rw [e] at r; cases r
theorem TabQ.n200 {h : Heap} {c : Addr} (t : TabQ h) (e : h.get? c = none) : c ∉ [200] := fun q => by
  obtain ⟨_, ps, hP, _⟩ := t
  simp only [List.mem_singleton] at q; subst q
  rw [hP] at e; cases e
/-- a change of a dict at L -/
theorem G.store {w : World} {base h h' : Heap} {outer : List Env} {L : Addr} (g : G w base outer h) (k : ∀ b o, b ≠ L → h.get? b = some o → h'.get? b = some o) (hL : ∃ mv, h.Ns L mv) (hb : base.get? L = none) (ho : L ∉ outer.filterMap (·.frame)) : G w base outer h' := by
  have hnf : ∀ b o vs, h.get? b = some o → o.data = .fields vs → b ≠ L := fun b o vs e d q => by
    obtain ⟨mv, o', es, ep, e', d', _⟩ := hL
    subst q; rw [e] at e'; cases e'; rw [d] at d'; cases d'
  refine ⟨g.xat, g.n200, fun b o e => k b o (fun q => by rw [q, hb] at e; cases e) (g.st b o e), ?_, g.tab.but fun b o vs e d _ => k b o (hnf b o vs e d) e⟩
  have hf := g.fr
  clear g
  induction outer with
  | nil => trivial
  | cons env rest ih =>
    obtain ⟨hk, ⟨L', o, hf1, hn, ho', hd⟩, hr⟩ := hf
    rw [List.filterMap_cons, hf1] at ho
    simp only [List.mem_cons, not_or] at ho
    exact ⟨hk, ⟨L', o, hf1, hn, k _ _ (Ne.symm ho.1) ho', hd⟩, ih ho.2 hr⟩
theorem G.frame {w : World} {base h : Heap} {outer : List Env} {env : Env} {L : Addr} {mv : Str → Option Value} (g : G w base outer h) (hn : h.Ns L mv) (hf : env.frame = some L) (hk : env.scope.kind = .function) (hb : base.get? L = none) : G w base (env :: outer) h :=
  ⟨g.xat, g.n200, g.st, Heap.FunFrames.cons (by rw [hk]; decide) hf hn hb g.fr, g.tab⟩
theorem G.fresh {w : World} {base h : Heap} {outer : List Env} (g : G w base outer h) {c : Addr} (e : h.get? c = none) : base.get? c = none := by
  cases q : base.get? c with
  | none => rfl
  | some o => rw [g.st c o q] at e; cases e
theorem G.nout {w : World} {base h : Heap} {outer : List Env} (g : G w base outer h) {c : Addr} (e : h.get? c = none) : c ∉ outer.filterMap (·.frame) := fun q => by
  obtain ⟨_, o, e', _⟩ := g.fr.mem q
  rw [e] at e'; cases e'
theorem G.unframe {w : World} {base h : Heap} {outer : List Env} {env : Env} (g : G w base (env :: outer) h) : G w base outer h := ⟨g.xat, g.n200, g.st, g.fr.2.2, g.tab⟩
theorem FIP.deep {w : World} {A : Around} {s0 s : Shared} {env : Env} {m cm : List (Str × PV)} {Z : Heap → Prop} {outer : List Env} (F : FIP w s0 env m cm Z s) (hfr : A.frames = some outer) : (A.deeper env).frames = some (env :: outer) := Around.frames_deeper hfr
theorem FIP.frm {w : World} {s0 s : Shared} {env : Env} {m cm : List (Str × PV)} {Z : Heap → Prop} {outer : List Env} {base h' : Heap} {L : Addr} {mv : Str → Option Value} (F : FIP w s0 env m cm Z s) (g : G w base outer h') (hn : h'.Ns L mv) (hf : env.frame = some L) (hk : env.scope.kind = .function) (hb : base.get? L = none) : G w base (env :: outer) h' := g.frame hn hf hk hb
theorem newexc_x {h h' : Heap} {e : Addr} {cls : String} (N : Heap.NewExc h h' e cls) : ∃ ob t, h'.get? e = some ob ∧ ob.cls = .type cls ∧ ob.data = .fields #[t, .none, .none, .none, .bool false, .none] := N.there
section
variable {w : World} {A : Around} {env : Env} {I : Inv}
theorem wp_index_none {o e1 e2 : Expr} {apos pos : Pos} {l p : List Nat} {i : Nat} {Q E : Value → Shared → Prop} (hh : A.handled = none) (hn : firstAt l p i = none) (ho : EV w A env I o (.str (S l))) (h1 : EV w A env I e1 (.str (S p))) (h2 : EV w A env I e2 (.int (i : Nat))) (s : Shared) (F : I.P s)
    (hE : ∀ s1 h' tk e, Keeps s s1 → I.P s1 → Heap.NewExc s1.heap h' e "ValueError" → E (.ref e) { s1 with heap := h', toks := tk })
    (hbase : attributeBase o (Str.ofString "index") env (eval o env) = eval o env := by rfl) (hs : starEach [e1, e2] env = [(false, eval e1 env), (false, eval e2 env)] := by rfl) (hline : (apos.endLine == pos.line) = true := by rfl) :
    wpAny (model PF w) A (eval (.Call (.Attribute o (Str.ofString "index") apos) [e1, e2] [] pos) env) Q E s :=
  Call_method2 hbase hs hline (ho.use F fun v s' r k F' => by
    obtain ⟨h3, h4⟩ := str_type s' v r
    refine ⟨"str", "str.index", PySem.F.plainAttrs_str, PySem.F.slot_str_index, PySem.F.type_str_index, h3, h4, Calls.callWith_builtin rfl (Calls.evalArgs_plain (Calls.spliced_cons (h1.use F' fun v2 s2 r2 k2 F2 => Calls.spliced_cons (h2.use F2 fun v3 s3 r3 k3 F3 => Calls.spliced_nil ?_))))⟩
    simp only [Rep] at r r2 r3
    obtain ⟨t, rfl⟩ := r; obtain ⟨t2, rfl⟩ := r2; obtain ⟨t3, rfl⟩ := r3
    exact index3_raises hh hn fun h' tk e N => hE s3 h' tk e (kp_trans k (kp_trans k2 k3)) F3 N)
end
theorem g_sfx {P : Params} : nsFind (esMain P) (Str.ofString "suffixed_err") = some (.ref 205) := by kernel_rfl
theorem fn_sfx (w : World) : Fn w 205 := .mk (Mine.suf.o_210 w.params) (by kernel_rfl) rfl
theorem b_ve {P : Params} : nsFind (esMain P) (Str.ofString "ValueError") = none ∧ nsFind (esBui P) (Str.ofString "ValueError") = some (.type "ValueError") := ⟨by kernel_rfl, by kernel_rfl⟩
theorem ve_exc : isSubtype (.type "ValueError") (.type "BaseException") = pure true := by rw [isSubtype_type]; kernel_rfl
theorem ve_nt : isSubtype (.type ((Manifest.find? "ValueError").elim "type" fun x => x.metatype)) (.type "tuple") = pure false := by rw [isSubtype_type]; kernel_rfl
theorem ve_sub : isSubtype (.type "ValueError") (.type "ValueError") = pure true := by rw [isSubtype_type]; kernel_rfl
theorem call_sfx {w : World} {A : Around} {env : Env} {I : Inv} {x : Str} {p pos : Pos} {e1 e2 e3 : Expr} {l : List Nat} {msg : Str} (hA : A.depth + 3 ≤ 900) (hl : l.length ≤ 1000) (hm : msg.length ≤ 100000) (hn : EV w A env I (.Name x p) (.val (.ref 205))) (h1 : EV w A env I e1 (.str (S l))) (h2 : EV w A env I e2 (.int ((S l).length : Int))) (h3 : EV w A env I e3 (.str msg)) (hI : I.Has w)
    (q1 : eval (.Call (.Name x p) [e1, e2, e3] [] pos) env = (do callWith pos (← eval (.Name x p) env) [] (backTo pos (starEach [e1, e2, e3] env)) (backToKw pos (keywordEach [] env))))
    (q2 : starEach [e1, e2, e3] env = (false, eval e1 env) :: starEach [e2, e3] env) (q3 : starEach [e2, e3] env = (false, eval e2 env) :: starEach [e3] env) (q4 : starEach [e3] env = (false, eval e3 env) :: starEach [] env) (s : Shared) (F : I.P s) (T : TabQ s.heap) :
    wpAny (model PF w) A (eval (.Call (.Name x p) [e1, e2, e3] [] pos) env) (fun v s' => ∃ s2, Keeps s s2 ∧ I.P s2 ∧ NewToml s2.heap s'.heap v ∧ TabQ s'.heap ∧ (∀ b o, s2.heap.get? b = some o → b ≠ 200 → s'.heap.get? b = some o) ∧ ∃ h' tk, s' = { s2 with heap := h', toks := tk }) No s := by
  have hd : (Mine.suf.o_210 w.params).data = .func _ := rfl
  refine Call_ (hn.use F fun v s1 r k1 F1 => ?_) q1
  simp only [Rep] at r; subst r
  refine callWith_def hd (no_mono (EVs.cons h1 (EVs.cons h2 (EVs.cons h3 EVs.nil q4) q3) q2 s1 F1) fun vs s2 y => ?_) q2
  obtain ⟨rr, k2⟩ := y
  have F2 := I.mono _ _ F1 k2
  have X := hI.x s2 F2
  have T2 := T.keeps (kp_heap (kp_trans k1 k2))
  refine ⟨X.1 _ _ (by kernel_rfl), ?_⟩
  simp only [RepL, Rep] at rr
  obtain ⟨_, _, rfl, ⟨t1, rfl⟩, _, _, rfl, ⟨t2, rfl⟩, _, _, rfl, ⟨t3, rfl⟩, rfl⟩ := rr
  exact no_mono (suffixed_err_wp hA X T2 (by rw [S_length]; exact hl) hm) fun v s3 ⟨y1, y2, y3, y4⟩ => ⟨s2, kp_trans k1 k2, F2, y1, y2, y3, y4⟩
theorem kp_rest {s s' : Shared} (k : Keeps s s') : s'.gens = s.gens ∧ s'.drawn = s.drawn ∧ s'.os = s.os := by obtain ⟨h, tk, rfl, _⟩ := k; exact ⟨rfl, rfl, rfl⟩
theorem FIP.rest {w : World} {s0 s : Shared} {env : Env} {m cm : List (Str × PV)} {Z : Heap → Prop} (F : FIP w s0 env m cm Z s) : s.gens = s0.gens ∧ s.drawn = s0.drawn ∧ s.os = s0.os := kp_rest F.kp
theorem rest_trans {a b c : Shared} (x : b.gens = a.gens ∧ b.drawn = a.drawn ∧ b.os = a.os) (y : c.gens = b.gens ∧ c.drawn = b.drawn ∧ c.os = b.os) : c.gens = a.gens ∧ c.drawn = a.drawn ∧ c.os = a.os := ⟨y.1.trans x.1, y.2.1.trans x.2.1, y.2.2.trans x.2.2⟩
noncomputable abbrev mSk (l p : List Nat) (i : Nat) (fz : Value) : List (Str × PV) := [(Str.ofString "error_on_eof", .bool true), (Str.ofString "error_on", .val fz), (Str.ofString "expect", .str (S p)), (Str.ofString "pos", .int (i : Nat)), (Str.ofString "src", .str (S l))]
theorem mSk_flat (l p : List Nat) (i : Nat) (fz : Value) : ∀ q ∈ mSk l p i fz, Flat q.2 = true := fun q hq => by
  simp only [mSk, List.mem_cons, List.not_mem_nil, or_false] at hq
  rcases hq with rfl | rfl | rfl | rfl | rfl <;> rfl
theorem FIP.apart {w : World} {s0 s : Shared} {env : Env} {m cm : List (Str × PV)} {Z : Heap → Prop} (F : FIP w s0 env m cm Z s) {b : Addr} {o : Obj} {vs : Array Value} (e : s.heap.get? b = some o) (d : o.data = .fields vs) : b ≠ env.locals := fun q => by
  obtain ⟨mv, ⟨o', es, ep, e', d', _⟩, _⟩ := F.loc
  rw [← q, e] at e'; cases e'; rw [d] at d'; cases d'
theorem EntryAt.objs {h : Heap} {e T : Addr} {cls x : Value} {vs : Array Value} (E : EntryAt h e cls vs T x) : ∃ oe oT ts, h.get? e = some oe ∧ oe.data = .fields vs ∧ h.get? T = some oT ∧ oT.data = .fields ts := by
  obtain ⟨oe, oT, ts, L, a, _, c, d, _, g, r, r1, _⟩ := E
  exact ⟨oe, oT, ts, a, c, g, r⟩
theorem G.afx {w : World} {base h h' h0 : Heap} {outer : List Env} {x : List Addr} {fs : List Addr} (g : G w base outer h) (a : Af fs x h h') (hfs : ∀ b ∈ fs, b ∈ outer.filterMap (·.frame)) (h0n : ∀ b ∈ x, h0.get? b = none) (hb : ∀ b, h0.get? b = none → base.get? b = none) (h200 : h0.get? 200 ≠ none) (hx : ∀ b ∈ x, ∀ o, h.get? b = some o → ∃ vs, o.data = .fields vs ∧ ∀ u t, vs[1]? ≠ some (.str u t)) : G w base outer h' :=
  g.af (a.mono hfs fun _ q => q) fun b hb' => ⟨hb b (h0n b hb'), fun q => h200 (q ▸ h0n b hb'), hx b hb'⟩
theorem skip_raises {w : World} {A : Around} {base : Heap} {outer : List Env} {s : Shared} {l p : List Nat} {i : Nat} {t1 t2 t3 : Tok} {fz : Value} {Q E : Value → Shared → Prop} (hh : A.handled = none) (hdep : A.depth + 6 ≤ 900) (hfr : A.frames = some outer) (g : G w base outer s.heap) (hl : l.length ≤ 1000) (hp : p.length ≤ 1000) (hc : ∀ c ∈ p, c < 16 ^ 8) (hn : firstAt l p i = none)
    (hE : ∀ e T vs h' tk, s.heap.get? e = none → s.heap.get? T = none → EntryAt h' e (.ref 181) vs T .none → Af (outer.filterMap (·.frame)) [200] s.heap h' → G w base outer h' → E (.ref e) { s with heap := h', toks := tk }) :
    wpAny (model PF w) A (call (.ref 191) [.str (S l) t1, .int (i : Nat) t2, .str (S p) t3] [(Str.ofString "error_on", fz), (Str.ofString "error_on_eof", .bool true)]) Q E s := by
  have hd : (Mine.suf.o_196 w.params).data = .func _ := rfl
  have hr : RepL s.heap [.str (S l), .int (i : Nat), .str (S p), .val fz, .bool true] [.str (S l) t1, .int (i : Nat) t2, .str (S p) t3, fz, .bool true] := by
    simp only [RepL, Rep]
    exact ⟨_, _, rfl, ⟨_, rfl⟩, _, _, rfl, ⟨_, rfl⟩, _, _, rfl, ⟨_, rfl⟩, _, _, rfl, rfl, _, _, rfl, rfl, rfl⟩
  refine call_any [Str.ofString "src", Str.ofString "pos", Str.ofString "expect", Str.ofString "error_on", Str.ofString "error_on_eof"] (mSk l p i fz) rfl g.x hr (by unfold recursionLimit; omega) (by kernel_rfl) hd (by kernel_rfl) rfl rfl rfl ?hk rfl rfl rfl fun L s1 hL k F => ?_
  case hk => decide +kernel
  have hfr' := F.deep hfr
  have hbL : base.get? L = none := g.fresh hL
  have hbl : ∀ b, s.heap.get? b = none → base.get? b = none := fun b hb => g.fresh hb
  refine wpAny_execs_cons (wpAny_Try_except (wpAny_execs_cons (wpAny_Assign_Name (wp_index_none (I := FI w (ghoS s) _ (mSk l p i fz) [] (fun _ => True) Stable.tt) (l := l) (p := p) (i := i) ?o0 hn ?o1 ?o2 ?o3 s1 F (fun s2 h3 tk3 e k2 F2 N => ?_) ?q1 ?q2 ?q3) ?q4)))
  case q1 => rfl
  case q2 => rfl
  case q3 => rfl
  case q4 => rfl
  case o0 => exact hh
  case o1 => walk_at "ev"
  case o2 => walk_at "ev"
  case o3 => walk_at "ev"
  have a2 : Af (L :: outer.filterMap (·.frame)) [200] s.heap h3 := (Af.of_kp (kp_heap k)).stepK (kp_heap k2) |>.stepK N.keeps
  have g2 : G w base outer h3 := (g.keeps (kp_heap k)).keeps (kp_heap k2) |>.keeps N.keeps
  have e0 : s.heap.get? e = none := ((Af.of_kp (kp_heap k)).stepK (kp_heap k2) : Af [] [] s.heap s2.heap).fresh N.new (by simp)
  obtain ⟨ob, tt, he, hcls, hdt⟩ := N.there
  have n2 : ∃ mv, h3.Ns L mv := let ⟨mv, n, _⟩ := FIP.loc F2; ⟨mv, n.keeps N.keeps⟩
  obtain ⟨mv2, hn2⟩ := n2
  have g2' := F.frm g2 hn2 rfl rfl hbL
  refine note_first hfr' g2'.fr rfl he hdt rfl fun h4 T a4 hT4 e4 => ?_
  have h200 : s.heap.get? 200 ≠ none := by obtain ⟨_, ps, hP, _⟩ := g.tab; rw [hP]; simp
  have hx1 : ∀ b ∈ [e], ∀ o, h3.get? b = some o → ∃ vs, o.data = .fields vs ∧ ∀ u t, vs[1]? ≠ some (.str u t) := fun b hb o eo => by
    simp only [List.mem_singleton] at hb; subst hb
    rw [he] at eo; cases eo
    exact ⟨_, hdt, by simp⟩
  have g4 := g2'.afx (h0 := s.heap) a4 (fun _ q => q) (by simpa using e0) hbl h200 hx1
  have a3 := a2.step a4 (fun c hc => hc) (fun c hc => .inr (by simp at hc; subst hc; exact e0))
  have T0 : s.heap.get? T = none := a2.fresh hT4 (g2.tab.n200 hT4)
  refine flight e4 fun h5 a5 e5 => ?_
  have g5 := g4.afx (h0 := s.heap) a5 (by simp) (by simpa using T0) hbl h200 (fun b hb o eo => e4.x b (.inr (by simpa using hb)) o eo)
  have a6 := a3.step a5 (by simp) (fun c hc => .inr (by simp at hc; subst hc; exact T0))
  have hL258 : 258 ≤ L := by
    have h1 : (ghoS s).heap.objs.size ≤ L := F.up
    have h2 := g.x.size
    rw [gho_size] at h1; exact Nat.le_trans h2 h1
  have eN : s2.heap.get? T = none := (Af.of_kp N.keeps : Af [] [] s2.heap h3).fresh hT4 (by simp)
  have b5 : Af (L :: outer.filterMap (·.frame)) [] s2.heap h5 := ((Af.of_kp N.keeps).step a4 (fun c hc => hc) (fun c hc => .inr (by simp at hc; subst hc; exact N.new))).step a5 (by simp) (fun c hc => .inr (by simp at hc; subst hc; exact eN))
  have F5 : FIP w _ _ (mSk l p i fz) [] (fun _ => True) { s2 with heap := h5, toks := tk3 } := F2.reb rfl g.xat.cut (fun b o e => g5.st b o (cut_of e)) (Nat.le_trans (cut_size base) hL258) (fun o eo => (b5 _ o eo (by simp)).2) (mSk_flat l p i fz) trivial
  refine wpAny_handleBy_builtin (X := "ValueError") (T := "ValueError") (b := true) ve_exc ve_nt ve_sub ?_
  refine (EV.bui (I := FI w _ _ (mSk l p i fz) [] (fun _ => True) Stable.tt) FI.has b_ve.1 b_ve.2 ?c1 ?c2 ?c3 ?c4 ?c5).use F5 fun v s6 r6 k6 F6 => ?_
  case c1 => kernel_rfl
  case c2 => rfl
  case c3 => rfl
  case c4 => rfl
  case c5 => kernel_rfl
  simp only [Rep] at r6; subst r6
  obtain ⟨oe5, oT5, ts5, L5, q1, q2, q3, q4, q5, q6, q7, q8, q9⟩ := id e5
  refine ⟨rfl, ⟨oe5, kp_heap k6 _ _ q1, q2.trans hcls⟩, ?_⟩
  rw [if_pos rfl]
  have e6 := e5.keeps fun b o _ eo => kp_heap k6 b o eo
  have g6 := g5.keeps (kp_heap k6)
  refine flight e6 fun h7 a7 e7 => ?_
  have g7 := g6.afx (h0 := s.heap) a7 (by simp) (by simpa using T0) hbl h200 (fun b hb o eo => e6.x b (.inr (by simpa using hb)) o eo)
  have a8 := (a6.stepK (kp_heap k6)).step a7 (by simp) (fun c hc => .inr (by simp at hc; subst hc; exact T0))
  obtain ⟨oe6, oT6, ts6, p1, p2, p3, p4⟩ := e6.objs
  have F7 : FIP w _ _ (mSk l p i fz) [] (fun _ => True) { s6 with heap := h7 } := F6.reb (tk := s6.toks) rfl g.xat.cut (fun b o eo => g7.st b o (cut_of eo)) (Nat.le_trans (cut_size base) hL258) (fun o eo => (a7 _ o eo (by simp only [List.mem_singleton]; exact Ne.symm (F6.apart p3 p4))).2) (mSk_flat l p i fz) trivial
  refine wpAny_execs_cons (wpAny_Assign_Name ((EV.callbui (I := FI w _ _ (mSk l p i fz) [] (fun _ => True) Stable.tt) (EV.bui FI.has b_len.1 b_len.2 ?d1 ?d2 ?d3 ?d4 ?d5) (EVs.cons (pv := .str (S l)) ?d6 EVs.nil ?d7) (CallV.len_str ?d8) ?d9 ?d10 ?d11).use F7 fun v s8 r8 k8 F8 => SX.store F8 Stable.tt r8 ?d12 ?d13 fun s9 F9 u9 => ?_) ?d14)
  case d1 => kernel_rfl
  case d2 => rfl
  case d3 => rfl
  case d4 => rfl
  case d5 => kernel_rfl
  case d6 => walk_at "ev"
  case d7 => rfl
  case d8 => rw [S_length]; omega
  case d9 => rfl
  case d10 => rfl
  case d11 => rfl
  case d12 => kernel_rfl
  case d13 => rfl
  case d14 => rfl
  have k9 : ∀ b o, b ≠ L → s8.heap.get? b = some o → s9.heap.get? b = some o := fun b o hb eo => u9 b o (fun q => q.elim hb fun ⟨n, hn⟩ => by cases hn) eo
  have e8 := e7.keeps fun b o _ eo => kp_heap k8 b o eo
  obtain ⟨oe8, oT8, ts8, p5, p6, p7, p8⟩ := e8.objs
  have e9 := e8.keeps (h' := s9.heap) fun b o hb eo => by
    refine k9 b o (fun q => ?_) eo
    rcases hb with rfl | rfl
    · exact F8.apart p5 p6 q
    · exact F8.apart p7 p8 q
  have g8 := g7.keeps (kp_heap k8)
  have g9 : G w base outer s9.heap := g8.unframe.store k9 (let ⟨mv, n, _⟩ := FIP.loc F8; ⟨mv, n⟩) hbL (g.nout hL)
  have a9 := (a8.stepK (kp_heap k8)).step (gs := []) (y := [L]) (fun b o eo hb => (have := k9 b o (by simpa using hb) eo; ⟨fun _ => this, o.slots, this⟩)) (by simp) (fun c hc => .inr (by simp at hc; subst hc; exact hL))
  refine wpAny_execs_cons (wpAny_If ((EB.plain (a := .bool true) (I := FI w _ _ ((Str.ofString "new_pos", .int ((S l).length : Int)) :: mSk l p i fz) [] (fun _ => True) Stable.tt) ?e1 TrV.bool ?e2).use F9 fun s10 k10 F10 => ?_))
  case e1 => walk_at "ev"
  case e2 => rfl
  have g10 := g9.keeps (kp_heap k10)
  have a10 := a9.stepK (kp_heap k10)
  have e10 := e9.keeps fun b o _ eo => kp_heap k10 b o eo
  refine wpAny_execs_cons ?_
  rw [arm_exec_Raise]
  refine wpAny_bind (wpAny_standAt (raise_from_none (e1 := e) rfl ?_))
  have hmsg : (Str.empty ++ Str.ofString "Expected " ++ reprText (S p)).length ≤ 100000 := by
    have := StrLaws.reprText_len (S p) (fun c hc' => hc c hc')
    rw [S_length] at this
    rw [Str.length_append, Str.empty_append, show (Str.ofString "Expected ").length = 9 from rfl]
    omega
  have hrl : (reprText (S p)).length ≤ 20000 := by
    have := StrLaws.reprText_len (S p) (fun c hc' => hc c hc')
    rw [S_length] at this; omega
  refine wpAny_bind (no_mono (call_sfx (I := FI w _ _ ((Str.ofString "new_pos", .int ((S l).length : Int)) :: mSk l p i fz) [] (fun _ => True) Stable.tt) (l := l) (msg := Str.empty ++ Str.ofString "Expected " ++ reprText (S p)) ?f1 hl hmsg (EV.glob FI.has g_sfx ?f2 ?f3 ?f4 ?f5) ?f6 ?f7 (EV.joined2 EV.str (EV.fmtRepr ?f8 ?f9) ?f10 ?f11 ?f12) FI.has ?f13 ?f14 ?f15 ?f16 s10 F10 g10.tab) fun v s11 y => ?_)
  case f1 => show A.depth + 1 + 3 ≤ 900; omega
  case f2 => kernel_rfl
  case f3 => rfl
  case f4 => rfl
  case f5 => kernel_rfl
  case f6 => walk_at "ev"
  case f7 => walk_at "ev"
  case f8 => walk_at "ev"
  case f9 => show _ ≤ 16777216; omega
  case f10 => rw [show (Str.ofString "Expected ").length = 9 from rfl]; show _ ≤ 16777216; omega
  case f11 => rfl
  case f12 => rfl
  case f13 => rfl
  case f14 => rfl
  case f15 => rfl
  case f16 => rfl
  obtain ⟨s12, k12, F12, ⟨e', t', rfl, hn', he'⟩, T11, kk, h11, tk11, rfl⟩ := y
  refine wpAny_bind (wpAny_standAt (wpAny_pure ?_))
  refine wpAny_bind (Constant_none (wpAny_bind (wpAny_standAt (wpAny_pure ?_))))
  have n200 : e ≠ 200 := fun q => h200 (q ▸ e0)
  have g12 := g10.keeps (kp_heap k12)
  have e12 := e10.keeps fun b o _ eo => kp_heap k12 b o eo
  have a12 := a10.stepK (kp_heap k12)
  have hb200 : base.get? 200 = none := g.n200
  have g11 : G w base outer h11 := ⟨g.xat, hb200, fun b o eo => kk b o (g12.st b o eo) fun q => (by rw [q, hb200] at eo; cases eo), g12.fr.of_keeps fun b o eo hnf => ⟨o, kk b o eo fun q => by
    obtain ⟨_, ps, hP, _⟩ := g12.tab
    rw [q, hP] at eo; cases eo; exact hnf _ rfl, rfl⟩, T11⟩
  have a11 : Af (L :: outer.filterMap (·.frame)) [200] s.heap h11 := a12.step (gs := []) (y := [200]) (fun b o eo hb => (have := kk b o eo (by simpa using hb); ⟨fun _ => this, o.slots, this⟩)) (by simp) (fun c hc => .inl hc)
  have e11 := e12.keeps (h' := h11) fun b o hb eo => kk b o eo (fun q => by
    rcases hb with rfl | rfl
    · exact n200 q
    · exact h200 (q ▸ T0))
  obtain ⟨oe11, oT11, ts11, r1, r2, r3, r4⟩ := e11.objs
  obtain ⟨oe12, oT12, ts12, r5, r6, r7, r8⟩ := e12.objs
  have hne : e' ≠ e := fun q => by rw [q, r5] at hn'; cases hn'
  have e'0 : s.heap.get? e' = none := a12.fresh hn' (g12.tab.n200 hn')
  refine ⟨rfl, e', t', oe11, _, rfl, hne, g11.x.1 _ _ (toml_obj w.params), r1, r2, by rfl, he', fun h13 kk13 he13 => ?_⟩
  have hx13 : ∀ b ∈ [e'], ∀ o, h11.get? b = some o → ∃ vs, o.data = .fields vs ∧ ∀ u t, vs[1]? ≠ some (.str u t) := fun b hb o eo => by
    simp only [List.mem_singleton] at hb; subst hb
    rw [he'] at eo; cases eo
    exact ⟨_, rfl, by simp⟩
  have af13 : Af [] [e'] h11 h13 := fun b o eo hb => (have := kk13 b o (by simpa using hb) eo; ⟨fun _ => this, o.slots, this⟩)
  have g13 := g11.afx (h0 := s.heap) af13 (by simp) (by simpa using e'0) hbl h200 hx13
  have a13 := a11.step af13 (by simp) (fun c hc => .inr (by simp at hc; subst hc; exact e'0))
  have n13 : ∃ mv, h13.Ns L mv := by
    obtain ⟨mv, ⟨o, es, ep, eo, d, q⟩, _⟩ := FIP.loc F12
    have hL200 : L ≠ 200 := fun q => h200 (q ▸ hL)
    have hL' : L ≠ e' := fun q => by
      have h1 : h11.get? L = some o := kk _ _ eo hL200
      rw [q, he'] at h1; cases h1; cases d
    exact ⟨mv, o, es, ep, kk13 _ _ hL' (kk _ _ eo hL200), d, q⟩
  obtain ⟨mv13, hn13⟩ := n13
  have g13' := F12.frm g13 hn13 rfl rfl hbL
  show wpAny _ _ (noteFrame (.ref e') _) _ _ _
  refine note_first hfr' g13'.fr rfl he13 rfl rfl fun h14 T2 a14 hT14 e14 => ?_
  have hx14 : ∀ b ∈ [e'], ∀ o, h13.get? b = some o → ∃ vs, o.data = .fields vs ∧ ∀ u t, vs[1]? ≠ some (.str u t) := fun b hb o eo => by
    simp only [List.mem_singleton] at hb; subst hb
    rw [he13] at eo; cases eo
    exact ⟨_, rfl, by simp⟩
  have g14 := g13'.afx (h0 := s.heap) a14 (fun _ q => q) (by simpa using e'0) hbl h200 hx14
  have T20 : s.heap.get? T2 = none := a13.fresh hT14 (g13.tab.n200 hT14)
  have f14 := a13.step a14 (fun c hc => hc) (fun c hc => .inr (by simp at hc; subst hc; exact e'0))
  obtain ⟨oe14, oT14, ts14, L14, u1, u2, u3, u4, u5, u6, u7, u8, u9'⟩ := id e14
  show wpAny _ _ (do if (← field (.ref e') 1) == .none then unsupported "frame.own-activation:exception-without-traceback"
                     setFlight (.ref e') _) _ _ _
  refine wpAny_bind (wpAny_field u1 u3 u4 ?_)
  rw [if_neg (by simp)]
  refine flight e14 fun h15 a15 e15 => ?_
  have g15 := g14.afx (h0 := s.heap) a15 (by simp) (by simpa using T20) hbl h200 (fun b hb o eo => e14.x b (.inr (by simpa using hb)) o eo)
  have f15 := f14.step a15 (by simp) (fun c hc => .inr (by simp at hc; subst hc; exact T20))
  show wpAny _ _ («leaving» _ (.ref e')) _ _ _
  unfold «leaving»
  refine wpAny_bind (note_here (L := L) rfl e15 (flight e15 fun h16 a16 e16 => ?_))
  have g16 := g15.afx (h0 := s.heap) a16 (by simp) (by simpa using T20) hbl h200 (fun b hb o eo => e15.x b (.inr (by simpa using hb)) o eo)
  have f16 := f15.step a16 (by simp) (fun c hc => .inr (by simp at hc; subst hc; exact T20))
  have f17 : Af (outer.filterMap (·.frame)) [200] s.heap h16 := f16.lessF fun b hb => by
    rcases List.mem_cons.mp hb with rfl | hb
    · exact .inr hL
    · exact .inl hb
  have hrest : s12.gens = s.gens ∧ s12.drawn = s.drawn ∧ s12.os = s.os :=
    rest_trans (rest_trans (rest_trans (kp_rest k) (kp_rest k2)) (show s6.gens = s2.gens ∧ s6.drawn = s2.drawn ∧ s6.os = s2.os by have := FIP.rest F6; exact this)) (show s12.gens = s6.gens ∧ s12.drawn = s6.drawn ∧ s12.os = s6.os by have := FIP.rest F12; exact this)
  have hfin := hE e' T2 _ h16 tk11 e'0 T20 e16 f17 g16.unframe
  rw [← hrest.1, ← hrest.2.1, ← hrest.2.2] at hfin
  exact hfin
end
section
theorem mro_fs : mroOf (.type "frozenset") = pure [.type "frozenset", .type "object"] := by rw [mroOf_type]; kernel_rfl
theorem lookup_fs_new : typeLookup (.type "frozenset") "__new__" = pure (some (.builtin "frozenset.__new__")) := by rw [typeLookup_type, builtinLookup_eq_fast]; kernel_rfl
theorem sub_fs_self : isSubtype (.type "frozenset") (.type "frozenset") = pure true := by rw [isSubtype_type]; kernel_rfl
theorem slot_fs_init : Slot "frozenset" (Str.ofString "__init__") "object.__init__" :=
  .of (owner := "object") (n := "__init__") (by rw [typeLookup_type, builtinLookup_eq_fast]; kernel_rfl) (by decide +kernel) (by decide +kernel) (by decide +kernel)
    (by first | exact .inl (by decide +kernel) | exact .inr (by decide +kernel)) (by rw [isSubtype_type]; kernel_rfl)
theorem called_fs : TypeCalled "frozenset" "frozenset.__new__" "object.__init__" :=
  ⟨by decide +kernel, by decide +kernel, ⟨_, _, mro_fs⟩, madeBy_type mro_fs lookup_fs_new (by decide +kernel), by decide +kernel, sub_fs_self, slot_fs_init⟩
theorem typeCall_fs_0 : checkTypeCall "frozenset" ⟨[], []⟩ = pure () := by rw [Fast.te11612656972197000677]; kernel_rfl
theorem newCall_fs_0 : checkBuiltinCall "frozenset.__new__" ⟨[.type "frozenset"], []⟩ = pure () := by rw [Fast.te10254737850608025244]; kernel_rfl
theorem entry_fs_new : entryFor table "frozenset.__new__" = some Builtin.«frozenset.__new__» := entryFor_of_tree (by kernel_rfl)
theorem init_fs_lookup : typeLookup (.type "frozenset") "__init__" = pure (some (.builtin "object.__init__")) := slot_fs_init.lookup
theorem madeHere_fs : Bind.madeHere "frozenset.__new__" (.type "frozenset") = pure () := by kernel_rfl
noncomputable abbrev fsO (led : Bool) : Obj := { cls := .type "frozenset", dict := none, data := .set #[] 0 (.fresh 0 0 led) }
theorem meets_fs_new : Meets (Builtin.«frozenset.__new__» ⟨[.type "frozenset"], []⟩) (fun _ R s => ∀ led, R (.ok (.ret (.ref s.heap.objs.size))) { s with heap := s.heap.push (fsO led) }) :=
  .of_wp fun prog w A R s h => by
    obtain ⟨hp, g, d, tk, os⟩ := s
    have h1 := sub_fs_self
    have h2 := init_fs_lookup
    have h3 := madeHere_fs
    unfold Builtin.«frozenset.__new__» Builtin.Frozenset.newClass
    wp_walk
    refine wpAny_askSetting (wpAny_pure ?_)
    dsimp only
    simp only [newObj]
    refine wpAny_bind (wpAny_alloc (wpAny_pure ?_))
    exact wpAny_pure ⟨_, rfl, h _⟩
section
variable {w : World} {A : Around} {E : Value → Shared → Prop} {s : Shared} {Q : Value → Shared → Prop}
theorem call_frozenset0 (hQ : ∀ led, Q (.ref s.heap.objs.size) { s with heap := s.heap.push (fsO led) }) : wpAny (model PF w) A (call (.type "frozenset") []) Q E s :=
  callType_new called_fs (by decide) typeCall_fs_0 newCall_fs_0 (fun obj => F.args_object_init_1 obj) entry_fs_new meets_fs_new fun led => ⟨⟨_, Heap.get?_push_size _ rfl, rfl⟩, hQ led⟩
theorem empty_find {a : Addr} {led : Bool} {x : Str} {u : Tok} {Q : Option Nat → Shared → Prop} (ho : s.heap.get? a = some (fsO led)) (h : Q none s) : wpAny (model PF w) A (setFind a (.str x u) (hashStr w x)) Q E s := by
  have hkey : (PySem.strKind PF w).is x (.str x u) = true := by show Value.isStrOf x (Value.str x u) = true; simp [Value.isStrOf]
  have hel : ElemsOf (PySem.strKind PF w) (#[] : Array (Int × Value)).toList := fun e he => by simp at he
  unfold setFind setFindIn
  refine wpAny_bind (wpAny_setState_of ho rfl (by rfl) ?_)
  dsimp only
  rw [byScan_of (knd := PySem.strKind PF w) rfl (by decide) hel]
  simp only [↓reduceIte]
  refine wpAny_bind (wpAny_rule ?_)
  refine wpAny_bind (wpAny_setScan_of (knd := PySem.strKind PF w) (k := x) hkey ho rfl (by rfl) hel ?_)
  exact wpAny_pure h
theorem entry_disj_loop : entryFor table "frozenset.isdisjoint.loop" = some Builtin.«frozenset.isdisjoint.loop» := entryFor_of_tree (by kernel_rfl)
theorem plain_disj_loop : plainId "frozenset.isdisjoint.loop" = true := by decide +kernel
theorem disj_loop {R : Result → Shared → Prop} {I a : Addr} {fp : List Addr} {n : Nat} {P : Nat → Value → Prop} {St : Nat → Heap → Prop} {led : Bool}
    (W : Walks PF w A.in1 I fp [I] n P St) (hI : I ≠ a) (hP : ∀ i v, P i v → ∃ x u, v = .str x u) :
    ∀ (k i : Nat) (s : Shared), n - i = k → i ≤ n → St i s.heap → s.heap.get? a = some (fsO led) →
    (∀ h' tk, (∀ b o, b ∉ [I] → s.heap.get? b = some o → h'.get? b = some o) → R (.ok (.ret (.bool true))) { s with heap := h', toks := tk }) →
    codeAny (model PF w) A (.builtin "frozenset.isdisjoint.loop" ⟨[.ref a, .ref I], []⟩) R s := by
  intro k
  induction k with
  | zero =>
    intro i s hk hi hst ho hR
    have hin : i = n := by omega
    refine codeAny_builtin entry_disj_loop ?_
    rw [Around.under_plainId plain_disj_loop _]
    show wpAny _ A.in1 (pyNext (.ref I) >>= _) _ _ s
    refine wpAny_bind (W.done s _ _ (hin ▸ hst) fun h' tk hk' => ?_)
    exact wpAny_pure (hR h' tk hk')
  | succ k ih =>
    intro i s hk hi hst ho hR
    have hlt : i < n := by omega
    refine codeAny_builtin entry_disj_loop ?_
    rw [Around.under_plainId plain_disj_loop _]
    show wpAny _ A.in1 (pyNext (.ref I) >>= _) _ _ s
    refine wpAny_bind (W.item i s _ _ hlt hst fun v h' tk hv hst' hk' => ?_)
    obtain ⟨x, u, rfl⟩ := hP i v hv
    have ho' : h'.get? a = some (fsO led) := hk' _ _ (by simpa using Ne.symm hI) ho
    show wpAny _ A.in1 (holding [.str x u] (setContains a (.str x u)) >>= _) _ _ _
    refine wpAny_bind (wpAny_holding ?_)
    unfold setContains
    refine wpAny_holding ?_
    refine wpAny_bind (wpAny_pyHash_str ?_)
    refine wpAny_bind (empty_find (s := { s with heap := h', toks := tk + 1 }) ho' (wpAny_pure ?_))
    refine wpAny_pure ⟨plainId_quiet plain_disj_loop _, ih (i + 1) _ (by omega) hlt hst' ho' fun h2 tk2 hk2 => hR h2 tk2 fun b o hb e => hk2 b o hb (hk' b o hb e)⟩
theorem call_isdisjoint (hA : A.handled = none) {a : Addr} {led : Bool} {x : Str} {u : Tok} (ho : s.heap.get? a = some (fsO led)) (hQ : ∀ h' tk, KpH s.heap h' → Q (.bool true) { s with heap := h', toks := tk }) :
    wpAny (model PF w) A (call (.builtin "frozenset.isdisjoint") [.ref a, .str x u]) Q E s := by
  have hT : s.TypeIs (.ref a) "frozenset" := ⟨_, ho, rfl⟩
  refine wpAny_call (codeAny_call_builtin slot_fs_isdisjoint.plain entry_fs_isdisjoint (slot_fs_isdisjoint.check _ _ _ _ _ _ _ _ hT (args_fs_isdisjoint _ _) ?_))
  obtain ⟨hp, gs, dr, tk, os⟩ := s
  have h1 := sub_str_set
  have h2 := sub_str_fs
  have hfree : ∀ b o, hp.get? b = some o → b ≠ hp.objs.size := fun b o e => Nat.ne_of_lt (Heap.lt_size e)
  unfold Builtin.«frozenset.isdisjoint» Builtin.Frozenset.oneOther
  wp_walk using wpAny_pyIter_str
  intro o St hW hst
  refine wpAny_pure ⟨plainId_quiet plain_disj_loop _, disj_loop (hW A.in1 hA) (fun e => hfree _ _ ho e.symm) (fun i v hv => ?_) _ 0 _ rfl (Nat.zero_le _) hst (Heap.get?_push_of_some _ ho) fun h' tk' hk => hQ h' tk' fun b o hb => hk b o (by simpa using hfree b o hb) (Heap.get?_push_of_some _ hb)⟩
  obtain ⟨c, t', hc, rfl⟩ := hv
  exact ⟨_, _, rfl⟩
end
end
section
section
variable {w : World} {A : Around} {env : Env} {I : Inv}
theorem EV.index3 {o e1 e2 : Expr} {apos pos : Pos} {l p : List Nat} {i k : Nat} (hn : firstAt l p i = some k) (ho : EV w A env I o (.str (S l))) (h1 : EV w A env I e1 (.str (S p))) (h2 : EV w A env I e2 (.int (i : Nat)))
    (hbase : attributeBase o (Str.ofString "index") env (eval o env) = eval o env := by rfl) (hs : starEach [e1, e2] env = [(false, eval e1 env), (false, eval e2 env)] := by rfl) (hline : (apos.endLine == pos.line) = true := by rfl) :
    EV w A env I (.Call (.Attribute o (Str.ofString "index") apos) [e1, e2] [] pos) (.int (k : Nat)) := fun s F =>
  Call_method2 hbase hs hline (ho.use F fun v s' r k F' => by
    obtain ⟨h3, h4⟩ := str_type s' v r
    refine ⟨"str", "str.index", PySem.F.plainAttrs_str, PySem.F.slot_str_index, PySem.F.type_str_index, h3, h4, Calls.callWith_builtin rfl (Calls.evalArgs_plain (Calls.spliced_cons (h1.use F' fun v2 s2 r2 k2 F2 => Calls.spliced_cons (h2.use F2 fun v3 s3 r3 k3 F3 => Calls.spliced_nil ?_))))⟩
    simp only [Rep] at r r2 r3
    obtain ⟨t, rfl⟩ := r; obtain ⟨t2, rfl⟩ := r2; obtain ⟨t3, rfl⟩ := r3
    exact index3_found hn ⟨rep_int, kp_trans k (kp_trans k2 (kp_trans k3 (kp_toks _ _)))⟩)
theorem EV.disj {o e : Expr} {apos pos : Pos} {a : Addr} {led : Bool} {x : Str} (hA : A.handled = Option.none) (hI : ∀ s, I.P s → s.heap.get? a = some (fsO led)) (ho : EV w A env I o (.val (.ref a))) (he : EV w A env I e (.str x))
    (hbase : attributeBase o (Str.ofString "isdisjoint") env (eval o env) = eval o env := by rfl) (hs : starEach [e] env = [(false, eval e env)] := by rfl) (hline : (apos.endLine == pos.line) = true := by rfl) :
    EV w A env I (.Call (.Attribute o (Str.ofString "isdisjoint") apos) [e] [] pos) (.bool true) := fun s F =>
  Call_method1 hbase hs hline (ho.use F fun v s' r k F' => by
    simp only [Rep] at r; subst r
    have hso := hI s' F'
    refine ⟨"frozenset", "frozenset.isdisjoint", plainAttrs_fs, slot_fs_isdisjoint, type_fs_isdisjoint, ⟨_, hso, rfl⟩, fun b e => by cases e; exact ⟨_, hso, rfl⟩, Calls.callWith_builtin rfl (Calls.evalArgs_plain (Calls.spliced_cons (he.use F' fun v2 s2 r2 k2 F2 => Calls.spliced_nil ?_)))⟩
    simp only [Rep] at r2; obtain ⟨u, rfl⟩ := r2
    exact call_isdisjoint hA (hI s2 F2) fun h' tk kk => ⟨rep_bool, kp_trans k (kp_trans k2 ⟨h', tk, rfl, kk⟩)⟩)
end
theorem skip_found {w : World} {A : Around} {s : Shared} {l p : List Nat} {i k : Nat} {t1 t2 t3 : Tok} {a : Addr} {led : Bool} (hh : A.handled = none) (hdep : A.depth + 6 ≤ 900) (X : XAt w s.heap) (hl : l.length ≤ 1000) (hn : firstAt l p i = some k) (ho : s.heap.get? a = some (fsO led)) :
    wpAny (model PF w) A (call (.ref 191) [.str (S l) t1, .int (i : Nat) t2, .str (S p) t3] [(Str.ofString "error_on", .ref a), (Str.ofString "error_on_eof", .bool true)]) (fun v s' => Rep s'.heap (.int (k : Nat)) v ∧ Keeps s s') No s := by
  have hd : (Mine.suf.o_196 w.params).data = .func _ := rfl
  have hr : RepL s.heap [.str (S l), .int (i : Nat), .str (S p), .val (.ref a), .bool true] [.str (S l) t1, .int (i : Nat) t2, .str (S p) t3, .ref a, .bool true] := by
    simp only [RepL, Rep]
    exact ⟨_, _, rfl, ⟨_, rfl⟩, _, _, rfl, ⟨_, rfl⟩, _, _, rfl, ⟨_, rfl⟩, _, _, rfl, rfl, _, _, rfl, rfl, rfl⟩
  refine call_any [Str.ofString "src", Str.ofString "pos", Str.ofString "expect", Str.ofString "error_on", Str.ofString "error_on_eof"] (mSk l p i (.ref a)) rfl X hr (by unfold recursionLimit; omega) (by kernel_rfl) hd (by kernel_rfl) rfl rfl rfl ?hk rfl rfl rfl fun L s1 hL kp F => ?_
  case hk => decide +kernel
  obtain ⟨hik, hkl⟩ := firstAt_le l p i k hn
  have hup : s.heap.objs.size ≤ L := by have h1 : (ghoS s).heap.objs.size ≤ L := F.up; rw [gho_size] at h1; exact h1
  refine no_mono ((?key : SX w _ _ (FI w s _ (mSk l p i (.ref a)) [] (fun _ => True) Stable.tt) _ (fun f s' => ∃ v, f = .ret v ∧ Rep s'.heap (.int (k : Nat)) v ∧ Keeps s s')) s1 ⟨X, kp, hup, F.loc, F.cel, trivial⟩) fun f s' q => q
  refine SX.try_ (SX.assign (EV.index3 (l := l) (p := p) (i := i) hn ?a1 ?a2 ?a3 ?a4 ?a5 ?a6) ?a7 ?a8 ?a9 (SX.then_nil ?_))
  case a1 => walk_at "ev"
  case a2 => walk_at "ev"
  case a3 => walk_at "ev"
  case a4 => rfl
  case a5 => rfl
  case a6 => rfl
  case a7 => kernel_rfl
  case a8 => rfl
  case a9 => rfl
  refine SX.if_ (b := !true) (EB.not (EB.plain (EV.disj (a := a) (led := led) (x := S ((l.drop i).take (k - i))) ?b1 ?b2 ?b3 (EV.sliceS (l := l) (i := i) (j := k) ?b4 ?b5 ?b6 hik ?b7 hl ?b8) ?b9 ?b10 ?b11) TrV.bool ?b12)) (fun h => by cases h) (fun _ => SX.then_nil ?_)
  case b1 => exact hh
  case b2 => exact fun s' F' => kp_heap (FIP.kp F') _ _ ho
  case b3 => walk_at "ev"
  case b4 => walk_at "ev"
  case b5 => walk_at "ev"
  case b6 => walk_at "ev"
  case b7 => omega
  case b8 => exact fun _ _ => rfl
  case b9 => rfl
  case b10 => rfl
  case b11 => rfl
  case b12 => rfl
  exact SX.ret (pv := .int (k : Nat)) (by walk_at "ev") fun s' v F r => ⟨v, rfl, r, FIP.kp F⟩
end
section
theorem g_skip {P : Params} : nsFind (esMain P) (Str.ofString "skip_until") = some (.ref 191) := by kernel_rfl
theorem b_fs {P : Params} : nsFind (esMain P) (Str.ofString "frozenset") = none ∧ nsFind (esBui P) (Str.ofString "frozenset") = some (.type "frozenset") := ⟨by kernel_rfl, by kernel_rfl⟩
section
variable {w : World} {A : Around} {env : Env} {I : Inv}
theorem wp_frozenset {x : Str} {p pos : Pos} (hn : EV w A env I (.Name x p) (.val (.type "frozenset"))) (s : Shared) (F : I.P s)
    (h1 : eval (.Call (.Name x p) [] [] pos) env = (do callWith pos (← eval (.Name x p) env) [] (backTo pos (starEach [] env)) (backToKw pos (keywordEach [] env)))) :
    wpAny (model PF w) A (eval (.Call (.Name x p) [] [] pos) env) (fun v s' => (∃ a led, v = .ref a ∧ s'.heap.get? a = some (fsO led)) ∧ Keeps s s') No s :=
  Call_ (hn.use F fun v s' r k F' => by
    simp only [Rep] at r; subst r
    exact callWith_type0 (call_frozenset0 fun led => ⟨⟨_, led, rfl, Heap.get?_push_size _ rfl⟩, kp_trans k ⟨_, _, rfl, fun b o e => Heap.get?_push_of_some _ e⟩⟩)) h1
theorem wp_callskip {x fz : Str} {p pz pf p1 p2 pc pos : Pos} {kc : Nat} {e1 e2 e3 : Expr} {l q : List Nat} {i : Nat} {Q E : Value → Shared → Prop} (hn : EV w A env I (.Name x p) (.val (.ref 191))) (he1 : EV w A env I e1 (.str (S l))) (he2 : EV w A env I e2 (.int (i : Nat))) (he3 : EV w A env I e3 (.str (S q))) (hf : EV w A env I (.Name fz pz) (.val (.type "frozenset"))) (hI : I.Has w)
    (q2 : starEach [e1, e2, e3] env = (false, eval e1 env) :: starEach [e2, e3] env) (q3 : starEach [e2, e3] env = (false, eval e2 env) :: starEach [e3] env) (q4 : starEach [e3] env = (false, eval e3 env) :: starEach [] env)
    (q5 : eval (.Call (.Name fz pz) [] [] pf) env = (do callWith pf (← eval (.Name fz pz) env) [] (backTo pf (starEach [] env)) (backToKw pf (keywordEach [] env)))) (s : Shared) (F : I.P s)
    (h : ∀ s' a led t1 t2 t3, Keeps s s' → I.P s' → s'.heap.get? a = some (fsO led) → wpAny (model PF w) A (call (.ref 191) [.str (S l) t1, .int (i : Nat) t2, .str (S q) t3] [(Str.ofString "error_on", .ref a), (Str.ofString "error_on_eof", .bool true)]) Q E s') :
    wpAny (model PF w) A (eval (.Call (.Name x p) [e1, e2, e3] [⟨some (Str.ofString "error_on"), .Call (.Name fz pz) [] [] pf, p1⟩, ⟨some (Str.ofString "error_on_eof"), .Constant (.bool true) kc pc, p2⟩] pos) env) Q E s := by
  have hd : (Mine.suf.o_196 w.params).data = .func _ := rfl
  refine wpAny_Call_ofName (hn.use F fun v s1 r k1 F1 => ?_)
  simp only [Rep] at r; subst r
  refine callWith_def_kw hd (evalArgs_kw2 rfl (no_mono (EVs.cons he1 (EVs.cons he2 (EVs.cons he3 EVs.nil q4) q3) q2 s1 F1) fun vs s2 y => ?_) q2)
  obtain ⟨rr, k2⟩ := y
  have F2 := I.mono _ _ F1 k2
  refine kwAll_cons (no_mono (wp_frozenset hf s2 F2 q5) fun v s3 y => kwAll_cons (Constant_bool (kwAll_nil ?_)))
  obtain ⟨⟨a, led, rfl, ha⟩, k3⟩ := y
  have F3 := I.mono _ _ F2 k3
  refine ⟨(hI.x s3 F3).1 _ _ (by kernel_rfl), ?_⟩
  have rr' := rr.keeps (kp_heap k3)
  simp only [RepL, Rep] at rr
  obtain ⟨_, _, rfl, ⟨t1, rfl⟩, _, _, rfl, ⟨t2, rfl⟩, _, _, rfl, ⟨t3, rfl⟩, rfl⟩ := rr
  exact h s3 a led t1 t2 t3 (kp_trans k1 (kp_trans k2 k3)) F3 ha
end
end
section
noncomputable def Aft (outer : List Env) (s s' : Shared) : Prop := Af (outer.filterMap (·.frame)) [200] s.heap s'.heap ∧ ∃ h' tk, s' = { s with heap := h', toks := tk }
theorem Aft.of_kp {outer : List Env} {s s' : Shared} (k : Keeps s s') : Aft outer s s' := ⟨Af.of_kp (kp_heap k), by obtain ⟨h, tk, e, _⟩ := k; exact ⟨h, tk, e⟩⟩
theorem Aft.trans {outer : List Env} {s s' s'' : Shared} (a : Aft outer s s') (b : Aft outer s' s'') : Aft outer s s'' := by
  obtain ⟨a1, h, tk, rfl⟩ := a
  obtain ⟨b1, h', tk', rfl⟩ := b
  exact ⟨a1.trans b1, h', tk', rfl⟩
/-- the contract of a function that may catch exceptions -/
noncomputable def PX (w : World) (d : Nat) (f : Addr) (args : List PV) (res : PV) : Prop :=
  ∀ A s vs base outer, Lv d A → A.frames = some outer → G w base outer s.heap → RepL s.heap args vs → wpAny (model PF w) A (call (.ref f) vs) (fun v s' => Rep s'.heap res v ∧ Aft outer s s' ∧ G w base outer s'.heap) No s
/-- no frame, the head alone -/
noncomputable def XI (w : World) : Inv := ⟨fun s => XAt w s.heap, fun s s' x k => x.keeps (kp_heap k)⟩
theorem XI.has {w : World} : (XI w).Has w := ⟨fun s x => x⟩
noncomputable abbrev mAg (t : List Nat) (first behind step : Nat) : List (Str × PV) := [(Str.ofString "step", .int (step : Nat)), (Str.ofString "behind", .int (behind : Nat)), (Str.ofString "first", .int (first : Nat)), (Str.ofString "text", .str (S t))]
noncomputable def againB (t : List Nat) (first behind step : Nat) : Bool := decide (behind ≤ first) || ((t.drop (first + step)).take (behind - first) == (t.drop first).take (behind - first))
theorem px_law_again (w : World) (t : List Nat) (first behind step : Nat) (ht : t.length ≤ 1000) (hc : ∀ c ∈ t, c < 16 ^ 8) (hb : behind + step ≤ t.length) :
    PX w 10 245 [.str (S t), .int (first : Nat), .int (behind : Nat), .int (step : Nat)] (.bool (againB t first behind step)) := by
  intro A s vs base outer hA hfr g hr
  have hd : (Mine.suf.o_253 w.params).data = .func _ := rfl
  have hlen := repL_len hr
  have hdep : A.depth + 10 ≤ 900 := hA.2.1
  obtain ⟨v1, v2, v3, v4, rfl⟩ := len4 hlen
  refine call_any (vs := [v1, v2, v3, v4]) [Str.ofString "text", Str.ofString "first", Str.ofString "behind", Str.ofString "step"] (mAg t first behind step) rfl g.x hr hA.room (by kernel_rfl) hd (by kernel_rfl) rfl rfl rfl ?hk rfl rfl rfl fun L s1 hL k F => ?_
  case hk => decide +kernel
  have hup : s.heap.objs.size ≤ L := by have h1 : (ghoS s).heap.objs.size ≤ L := F.up; rw [gho_size] at h1; exact h1
  refine no_mono ((?key : SX w _ _ (FI w s _ (mAg t first behind step) [] (fun _ => True) Stable.tt) _ (fun f s' => ∃ v, f = .ret v ∧ Rep s'.heap (.bool (againB t first behind step)) v ∧ Aft outer s s' ∧ G w base outer s'.heap)) s1 ⟨g.x, k, hup, F.loc, F.cel, trivial⟩) fun f s' q => q
  refine SX.if_ (b := decide ((behind : Int) ≤ first)) (EB.cmp (a := .int (first : Nat)) (b := .int (behind : Nat)) ?a1 ?a2 CmpV.ge_int ?a3) (fun h => ?h1) (fun h => ?h2)
  case a1 => walk_at "ev"
  case a2 => walk_at "ev"
  case a3 => rfl
  case h1 =>
    have hfb : behind ≤ first := by simpa using h
    refine SX.ret (pv := .bool true) EV.bool fun s' v F' r => ⟨v, rfl, ?_, .of_kp (FIP.kp F'), g.keeps (kp_heap (FIP.kp F'))⟩
    have : againB t first behind step = true := by unfold againB; simp [hfb]
    rw [this]; exact r
  have hfb : ¬ behind ≤ first := by simpa using h
  refine SX.then_nil (SX.assign (pv := .str (S ((t.drop first).take (behind - first)))) (EV.sliceS ?b1 ?b2 ?b3 (by omega) (by omega) ht ?b4) ?b5 ?b6 ?b7 ?_)
  case b1 => walk_at "ev"
  case b2 => walk_at "ev"
  case b3 => walk_at "ev"
  case b4 => exact fun _ _ => rfl
  case b5 => kernel_rfl
  case b6 => rfl
  case b7 => rfl
  intro s3 F3
  refine wpAny_execs_cons (wpAny_Try_except (wpAny_execs_cons (wpAny_Return_some (wpAny_Compare1 (wp_callskip (I := FI w s _ ((Str.ofString "piece", .str (S ((t.drop first).take (behind - first)))) :: mAg t first behind step) [] (fun _ => True) Stable.tt) (l := t) (q := (t.drop first).take (behind - first)) (i := first + step) (EV.glob FI.has g_skip ?c1 ?c2 ?c3 ?c4) ?c5 (EV.as (p := .int ((first : Int) + step)) ?c6 (congrArg PV.int (by omega))) ?c7 (EV.bui FI.has b_fs.1 b_fs.2 ?c8 ?c9 ?c10 ?c11 ?c12) FI.has ?c13 ?c14 ?c15 ?c16 s3 F3 (fun s4 a led t1 t2 t3 k4 F4 ha => ?_)) ?c17))))
  case c1 => kernel_rfl
  case c2 => rfl
  case c3 => rfl
  case c4 => kernel_rfl
  case c5 => walk_at "ev"
  case c6 => walk_at "ev"
  case c7 => walk_at "ev"
  case c8 => kernel_rfl
  case c9 => rfl
  case c10 => rfl
  case c11 => rfl
  case c12 => kernel_rfl
  case c13 => rfl
  case c14 => rfl
  case c15 => rfl
  case c16 => rfl
  case c17 => rfl
  have hpl : ((t.drop first).take (behind - first)).length = behind - first := by simp; omega
  have hspec := firstAt_spec t ((t.drop first).take (behind - first)) (first + step) (by rw [hpl]; omega)
  rw [hpl] at hspec
  have hag : againB t first behind step = (firstAt t ((t.drop first).take (behind - first)) (first + step) == some (first + step)) := by
    rw [hspec]; unfold againB; simp [hfb]
  have X4 : XAt w s4.heap := FIP.xat F4
  cases hcase : firstAt t ((t.drop first).take (behind - first)) (first + step) with
  | some i =>
    refine no_mono (skip_found hA.1 ?d1 X4 ht hcase ha) fun v s5 y => ?_
    case d1 => show A.depth + 1 + 6 ≤ 900; omega
    obtain ⟨r5, k5⟩ := y
    have F5 := (FI w s _ ((Str.ofString "piece", .str (S ((t.drop first).take (behind - first)))) :: mAg t first behind step) [] (fun _ => True) Stable.tt).mono _ _ F4 k5
    refine (?e1 : EV w _ _ (FI w s _ ((Str.ofString "piece", .str (S ((t.drop first).take (behind - first)))) :: mAg t first behind step) [] (fun _ => True) Stable.tt) _ (.int ((first : Int) + step))).use F5 fun v2 s6 r6 k6 F6 => ?_
    case e1 => walk_at "ev"
    simp only [Rep] at r5 r6; obtain ⟨u5, rfl⟩ := r5; obtain ⟨u6, rfl⟩ := r6
    refine eq_int ?_
    refine ⟨_, rfl, ?_, .of_kp (FIP.kp F6), g.keeps (kp_heap (FIP.kp F6))⟩
    rw [hag, hcase]
    simp only [Rep]
    congr 1
    rw [Bool.eq_iff_iff]; simp; omega
  | none =>
    have hagF : againB t first behind step = false := by rw [hag, hcase]; rfl
    have hbL : base.get? L = none := g.fresh hL
    have g4 := g.keeps (kp_heap (FIP.kp F4))
    obtain ⟨mv4, n4, _⟩ := FIP.loc F4
    have g4' := FIP.frm F4 g4 n4 rfl rfl hbL
    have hfr' := FIP.deep F4 hfr
    refine skip_raises hA.1 ?f1 hfr' g4' ht (by rw [hpl]; omega) ?f2 hcase fun e T vs h5 tk5 e0 T0 ent5 a5 g5 => ?_
    case f1 => show A.depth + 1 + 6 ≤ 900; omega
    case f2 => exact fun c hm => hc c (List.mem_of_mem_drop (List.mem_of_mem_take hm))
    have hbl : ∀ b, s.heap.get? b = none → base.get? b = none := fun b hb => g.fresh hb
    have h200 : s.heap.get? 200 ≠ none := by obtain ⟨_, ps, hP, _⟩ := g.tab; rw [hP]; simp
    have k04 := kp_heap (FIP.kp F4)
    have e00 : s.heap.get? e = none := (Af.of_kp k04 : Af [] [] s.heap s4.heap).fresh e0 (by simp)
    have T00 : s.heap.get? T = none := (Af.of_kp k04 : Af [] [] s.heap s4.heap).fresh T0 (by simp)
    have a05 : Af (L :: outer.filterMap (·.frame)) [200] s.heap h5 := Af.after k04 a5
    refine note_next hfr' g5.fr rfl ent5 fun h6 T' a6 hT' ent6 => ?_
    have T'0 : s.heap.get? T' = none := a05.fresh hT' (g5.tab.n200 hT')
    have g6 := g5.afx (h0 := s.heap) a6 (fun _ q => q) (by simpa using ⟨e00, T00⟩) hbl h200 (fun b hb o eo => ent5.x b (by simpa using hb) o eo)
    have a06 := a05.step a6 (fun c hc => hc) (fun c hc => .inr (by simp at hc; rcases hc with rfl | rfl <;> assumption))
    refine flight ent6 fun h7 a7 ent7 => ?_
    have g7 := g6.afx (h0 := s.heap) a7 (by simp) (by simpa using T'0) hbl h200 (fun b hb o eo => ent6.x b (.inr (by simpa using hb)) o eo)
    have a07 := a06.step a7 (by simp) (fun c hc => .inr (by simp at hc; subst hc; exact T'0))
    refine wpAny_handleBy_cons (codeAny_handlers_test ((EV.glob (I := XI w) XI.has g_toml ?i1 ?i2 ?i3 ?i4).use (s := { s4 with heap := h7, toks := tk5 }) g7.x fun v s8 r8 k8 X8 => ?_)) (by intro q; cases q)
    case i1 => kernel_rfl
    case i2 => rfl
    case i3 => rfl
    case i4 => kernel_rfl
    simp only [Rep] at r8; subst r8
    have ent8 := ent7.keeps fun b o _ eo => kp_heap k8 b o eo
    have g8 := g7.keeps (kp_heap k8)
    have a08 := a07.stepK (kp_heap k8)
    have hrest : s8.gens = s.gens ∧ s8.drawn = s.drawn ∧ s8.os = s.os := rest_trans (FIP.rest F4) (show s8.gens = s4.gens ∧ s8.drawn = s4.drawn ∧ s8.os = s4.os by have := kp_rest k8; exact this)
    obtain ⟨oe8, oT8, ts8, L8, q1, q2, q3, _⟩ := id ent8
    have hC8 := g8.x.1 _ _ (toml_obj w.params)
    obtain ⟨hp8, gs8, dr8, tk8, os8⟩ := s8
    refine wpAny_excMatches_sub_self hC8 q1 q2 (by decide) ?_
    refine codeAny_handlers_suite (flight ent8 fun h9 a9 ent9 => ?_)
    have g9 := g8.afx (h0 := s.heap) a9 (by simp) (by simpa using T'0) hbl h200 (fun b hb o eo => ent8.x b (.inr (by simpa using hb)) o eo)
    have a09 := a08.step a9 (by simp) (fun c hc => .inr (by simp at hc; subst hc; exact T'0))
    refine wpAny_execs_cons (wpAny_Return_some (Constant_bool ?_))
    have a0f : Af (outer.filterMap (·.frame)) [200] s.heap h9 := a09.lessF fun b hb => by
      rcases List.mem_cons.mp hb with rfl | hb
      · exact .inr hL
      · exact .inl hb
    obtain ⟨r1, r2, r3⟩ := hrest
    dsimp only at r1 r2 r3
    subst r1 r2 r3
    refine ⟨_, rfl, ?_, ⟨a0f, h9, _, rfl⟩, g9.unframe⟩
    rw [hagF]
    simp only [Rep]
end
section
theorem wp_callPX {w : World} {A : Around} {env : Env} {I : Inv} {x : Str} {p pos : Pos} {e : Expr} {rest : List Expr} {pvs : List PV} {a : Addr} {res : PV} {d : Nat} {outer : List Env} {base : Heap} (hc : PX w d a pvs res) (hf : Fn w a) (hA : Lv d A) (hfr : A.frames = some outer) (hn : EV w A env I (.Name x p) (.val (.ref a))) (ha : EVs w A env I pos (e :: rest) pvs) (hI : I.Has w)
    (h1 : eval (.Call (.Name x p) (e :: rest) [] pos) env = (do callWith pos (← eval (.Name x p) env) [] (backTo pos (starEach (e :: rest) env)) (backToKw pos (keywordEach [] env))))
    (h2 : starEach (e :: rest) env = (false, eval e env) :: starEach rest env) (s : Shared) (F : I.P s) (g : G w base outer s.heap) :
    wpAny (model PF w) A (eval (.Call (.Name x p) (e :: rest) [] pos) env) (fun v s' => ∃ s1, Keeps s s1 ∧ I.P s1 ∧ Rep s'.heap res v ∧ Aft outer s1 s' ∧ G w base outer s'.heap) No s := by
  obtain ⟨o, fd, ho, hd⟩ := hf
  refine Call_ (hn.use F fun v s1 r k1 F1 => ?_) h1
  simp only [Rep] at r; subst r
  refine callWith_def hd (no_mono (ha s1 F1) fun vs s2 y => ?_) h2
  obtain ⟨rr, k2⟩ := y
  have F2 := I.mono _ _ F1 k2
  refine ⟨(hI.x s2 F2).1 _ _ ho, ?_⟩
  have k := kp_trans k1 k2
  exact no_mono (hc A s2 vs base outer hA hfr (g.keeps (kp_heap k)) rr) fun v s3 ⟨y1, y2, y3⟩ => ⟨s2, k, F2, y1, y2, y3⟩
theorem FIP.lv {w : World} {A : Around} {d : Nat} {s0 s : Shared} {env : Env} {m cm : List (Str × PV)} {Z : Heap → Prop} (F : FIP w s0 env m cm Z s) (hA : Lv (d + 1) A) : Lv d (A.deeper env) := hA.deeper env
theorem FIP.sub {w : World} {s0 s : Shared} {env : Env} {m m' cm : List (Str × PV)} {Z : Heap → Prop} (F : FIP w s0 env m cm Z s) (h : ∀ p ∈ m', m.lookup p.1 = some p.2) : FIP w s0 env m' cm Z s := FIP.weaken F h
/-- a frame above code that catches exceptions -/
structure JP (w : World) (base : Heap) (outer : List Env) (s0 : Shared) (env : Env) (m : List (Str × PV)) (s : Shared) : Prop where
  f : FIP w { s0 with heap := cutH base } env m [] (fun _ => True) s
  g : G w base outer s.heap
  a : Af (env.locals :: outer.filterMap (·.frame)) [200] s0.heap s.heap
noncomputable abbrev Zk (env : Env) (h0 : Heap) : Heap → Prop := fun h => ∀ b o, h0.get? b = some o → b ≠ env.locals → h.get? b = some o
theorem JP.into {w : World} {base : Heap} {outer : List Env} {s0 s : Shared} {env : Env} {m : List (Str × PV)} (J : JP w base outer s0 env m s) : FIP w { s0 with heap := cutH base } env m [] (Zk env s.heap) s := ⟨J.f.x, J.f.kp, J.f.up, J.f.loc, J.f.cel, fun b o e _ => e⟩
theorem JP.out {w : World} {base : Heap} {outer : List Env} {s0 s s' : Shared} {env : Env} {m m' : List (Str × PV)} (J : JP w base outer s0 env m s) (hn : s0.heap.get? env.locals = none) (hg : G w base outer s0.heap) (F : FIP w { s0 with heap := cutH base } env m' [] (Zk env s.heap) s') : JP w base outer s0 env m' s' := by
  have hb := hg.fresh hn
  refine ⟨⟨F.x, F.kp, F.up, F.loc, F.cel, trivial⟩, J.g.store (fun b o hb' e => F.z b o e hb') ?_ hb (hg.nout hn), ?_⟩
  · obtain ⟨mv, n, _⟩ := J.f.loc
    exact ⟨mv, n⟩
  · exact J.a.step (gs := []) (y := [env.locals]) (fun b o e hb' => (have := F.z b o e (by simpa using hb'); ⟨fun _ => this, o.slots, this⟩)) (by simp) (fun c hc => .inr (by simp at hc; subst hc; exact hn))
theorem JP.keeps {w : World} {base : Heap} {outer : List Env} {s0 s s' : Shared} {env : Env} {m : List (Str × PV)} (J : JP w base outer s0 env m s) (k : Keeps s s') : JP w base outer s0 env m s' :=
  ⟨(FI w _ env m [] (fun _ => True) Stable.tt).mono _ _ J.f k, J.g.keeps (kp_heap k), J.a.stepK (kp_heap k)⟩
/-- behind a call that caught exceptions -/
theorem JP.aft {w : World} {base : Heap} {outer : List Env} {s0 s s' : Shared} {env : Env} {m : List (Str × PV)} (J : JP w base outer s0 env m s) (hfl : ∀ p ∈ m, Flat p.2 = true) (hce : env.cells = []) (hf : env.frame = some env.locals) (h : Aft (env :: outer) s s') (g : G w base (env :: outer) s'.heap) : JP w base outer s0 env m s' := by
  obtain ⟨a, h', tk, rfl⟩ := h
  have hL200 : env.locals ∉ [200] := fun q => by
    simp only [List.mem_singleton] at q
    obtain ⟨_, ps, hP, _⟩ := J.g.tab
    exact J.f.apart hP rfl q.symm
  have hup : (cutH base).objs.size ≤ env.locals := J.f.up
  have F := J.f.reb (tk := tk) (h' := h') hce g.xat.cut (fun b o e => g.st b o (cut_of e)) hup (fun o e => (a _ o e hL200).2) hfl (Z' := fun _ => True) trivial
  have hr := FIP.rest J.f
  refine ⟨⟨F.x, ?_, F.up, F.loc, F.cel, trivial⟩, g.unframe, J.a.step a (fun c hc => by simpa [hf] using hc) (fun c hc => .inl hc)⟩
  obtain ⟨hh, tk', e, kk⟩ := F.kp
  obtain ⟨r1, r2, r3⟩ := hr
  refine ⟨h', tk, ?_, fun b o eb => g.st b o (cut_of eb)⟩
  dsimp only at r1 r2 r3 ⊢
  rw [r1, r2, r3]
theorem JP.frame {w : World} {base : Heap} {outer : List Env} {s0 s : Shared} {env : Env} {m : List (Str × PV)} (J : JP w base outer s0 env m s) (hn : s0.heap.get? env.locals = none) (hg : G w base outer s0.heap) (hf : env.frame = some env.locals) (hk : env.scope.kind = .function) : G w base (env :: outer) s.heap := by
  obtain ⟨mv, n, _⟩ := J.f.loc
  exact J.g.frame n hf hk (hg.fresh hn)
theorem JP.fin {w : World} {base : Heap} {outer : List Env} {s0 s : Shared} {env : Env} {m : List (Str × PV)} (J : JP w base outer s0 env m s) (hn : s0.heap.get? env.locals = none) : Aft outer s0 s ∧ G w base outer s.heap := by
  obtain ⟨r1, r2, r3⟩ := FIP.rest J.f
  refine ⟨⟨J.a.lessF fun b hb => ?_, s.heap, s.toks, ?_⟩, J.g⟩
  · rcases List.mem_cons.mp hb with rfl | hb
    · exact .inr hn
    · exact .inl hb
  · dsimp only at r1 r2 r3
    rw [← r1, ← r2, ← r3]
/-- the start of a frame -/
theorem JP.start {w : World} {base : Heap} {outer : List Env} {s0 s : Shared} {env : Env} {m : List (Str × PV)} (F : FIP w (ghoS s0) env m [] (fun _ => True) s) (k : Keeps s0 s) (hg : G w base outer s0.heap) (hce : env.cells = []) (hfl : ∀ p ∈ m, Flat p.2 = true) : JP w base outer s0 env m s := by
  have hL258 : 258 ≤ env.locals := by
    have h1 : (ghoS s0).heap.objs.size ≤ env.locals := F.up
    have h2 := hg.x.size
    rw [gho_size] at h1; exact Nat.le_trans h2 h1
  have g1 := hg.keeps (kp_heap k)
  have F1 := F.reb (tk := s.toks) (h' := s.heap) hce hg.xat.cut (fun b o e => g1.st b o (cut_of e)) (Nat.le_trans (cut_size base) hL258) (fun o eo => ⟨o.slots, eo⟩) hfl (Z' := fun _ => True) trivial
  refine ⟨⟨F1.x, ?_, F1.up, F1.loc, F1.cel, trivial⟩, g1, Af.of_kp (kp_heap k)⟩
  obtain ⟨h', tk, rfl, kk⟩ := k
  exact ⟨h', tk, rfl, fun b o eb => g1.st b o (cut_of eb)⟩
theorem g_again {P : Params} : nsFind (esMain P) (Str.ofString "_law_again") = some (.ref 245) := by kernel_rfl
theorem fn_again (w : World) : Fn w 245 := .mk (Mine.suf.o_253 w.params) (by kernel_rfl) rfl
noncomputable abbrev mAc (t : List Nat) (cut : Nat) (i : Nat) : List (Str × PV) := [(Str.ofString "step", .int ((i + 1 : Nat) : Int)), (Str.ofString "cut", .int (cut : Nat)), (Str.ofString "text", .str (S t))]
theorem mAc_flat (t : List Nat) (cut i : Nat) : ∀ q ∈ mAc t cut i, Flat q.2 = true := fun q hq => by
  simp only [mAc, List.mem_cons, List.not_mem_nil, or_false] at hq
  rcases hq with rfl | rfl | rfl <;> rfl
noncomputable def acrossB (t : List Nat) (cut step : Nat) : Bool := againB t (cut - step) (min cut (t.length - step)) step
theorem px_law_across (w : World) (t : List Nat) (cut n : Nat) (ht : t.length ≤ 1000) (hc : ∀ c ∈ t, c < 16 ^ 8) (hcut : cut ≤ t.length) (hn : n + 1 ≤ t.length) (hlow : ∀ i, i < n → acrossB t cut (i + 1) = false) (hend : acrossB t cut (n + 1) = true) :
    PX w 12 252 [.str (S t), .int (cut : Nat)] (.int ((n + 1 : Nat) : Int)) := by
  intro A s vs base outer hA hfr g hr
  have hd : (Mine.suf.o_260 w.params).data = .func _ := rfl
  have hlen := repL_len hr
  obtain ⟨v1, v2, rfl⟩ := len2 hlen
  refine call_any (vs := [v1, v2]) [Str.ofString "text", Str.ofString "cut"] [(Str.ofString "cut", .int (cut : Nat)), (Str.ofString "text", .str (S t))] rfl g.x hr hA.room (by kernel_rfl) hd (by kernel_rfl) rfl rfl rfl ?hk rfl rfl rfl fun L s1 hL k F => ?_
  case hk => decide +kernel
  have hA11 := FIP.lv F hA
  have J0 := JP.start F k g rfl (by simp [Flat])
  have hfr' := FIP.deep F hfr
  refine no_mono ((?key : SX w _ _ (FI w { s with heap := cutH base } _ [(Str.ofString "cut", .int (cut : Nat)), (Str.ofString "text", .str (S t))] [] (Zk _ s1.heap) (kept_off _ rfl)) _ (fun f s' => ∃ v, f = .ret v ∧ Rep s'.heap (.int ((n + 1 : Nat) : Int)) v ∧ Aft outer s s' ∧ G w base outer s'.heap)) s1 J0.into) fun f s' q => q
  refine SX.assign (EV.as EV.int (congrArg PV.int (show (1 : Int) = ((0 + 1 : Nat) : Int) from rfl))) ?k1 ?k2 ?k3 fun s2 F2 => ?_
  case k1 => kernel_rfl
  case k2 => rfl
  case k3 => rfl
  have J2 := J0.out hL g F2
  refine while_gen (fun i s' => JP w base outer s _ (mAc t cut i) s') (fun i => !(acrossB t cut (i + 1))) n (fun i hi => by rw [hlow i hi]; rfl) (by rw [hend]; rfl) ?ht ?turn ?after s2 J2
  case ht =>
    intro i s3 hi J3
    have hi1 : i + 1 ≤ t.length := by omega
    have g3 := J3.frame hL g rfl rfl
    refine isTrue_not (isTrue_plain (no_mono (wp_callPX (I := FI w { s with heap := cutH base } _ (mAc t cut i) [] (fun _ => True) Stable.tt) (px_law_again w t (cut - (i + 1)) (min cut (t.length - (i + 1))) (i + 1) ht hc (by omega)) (fn_again w) (hA11.less (by decide)) hfr' (EV.glob FI.has g_again ?c1 ?c2 ?c3 ?c4) (EVs.cons ?e1 (EVs.cons (EV.as (p := .int (max 0 ((cut : Int) - ((i + 1 : Nat) : Int)))) ?e2 (congrArg PV.int (by omega))) (EVs.cons (EV.as (p := .int (min (cut : Int) (((S t).length : Int) - ((i + 1 : Nat) : Int)))) ?e3 (congrArg PV.int (by rw [S_length]; omega))) (EVs.cons ?e4 EVs.nil ?q1) ?q2) ?q3) ?q4) FI.has ?q5 ?q6 s3 J3.f g3) fun v s4 ⟨s5, k5, F5, r4, a4, g4⟩ => ?_) ?q7)
    case c1 => kernel_rfl
    case c2 => rfl
    case c3 => rfl
    case c4 => kernel_rfl
    case e1 => walk_at "ev"
    case e2 =>
      refine EV.callbui (EV.bui FI.has b_max.1 b_max.2 ?m1 ?m2 ?m3 ?m4 ?m5) (EVs.cons EV.int (EVs.cons ?m6 EVs.nil ?m7) ?m8) (CallV.max_two hA11.1) ?m9 ?m10 ?m11
      case m1 => kernel_rfl
      case m2 => rfl
      case m3 => rfl
      case m4 => rfl
      case m5 => kernel_rfl
      case m6 => walk_at "ev"
      case m7 => rfl
      case m8 => rfl
      case m9 => rfl
      case m10 => rfl
      case m11 => rfl
    case e3 =>
      refine EV.callbui (EV.bui FI.has b_min.1 b_min.2 ?m1 ?m2 ?m3 ?m4 ?m5) (EVs.cons ?m6 (EVs.cons (EV.binop (EV.callbui (EV.bui FI.has b_len.1 b_len.2 ?l1 ?l2 ?l3 ?l4 ?l5) (EVs.cons (pv := .str (S t)) ?l6 EVs.nil ?l7) (CallV.len_str (by rw [S_length]; omega)) ?l8 ?l9 ?l10) ?l11 OpV.sub_int) EVs.nil ?m7) ?m8) (CallV.min_two hA11.1) ?m9 ?m10 ?m11
      case m1 => kernel_rfl
      case m2 => rfl
      case m3 => rfl
      case m4 => rfl
      case m5 => kernel_rfl
      case m6 => walk_at "ev"
      case m7 => rfl
      case m8 => rfl
      case m9 => rfl
      case m10 => rfl
      case m11 => rfl
      case l1 => kernel_rfl
      case l2 => rfl
      case l3 => rfl
      case l4 => rfl
      case l5 => kernel_rfl
      case l6 => walk_at "ev"
      case l7 => rfl
      case l8 => rfl
      case l9 => rfl
      case l10 => rfl
      case l11 => walk_at "ev"
    case e4 => walk_at "ev"
    case q1 => rfl
    case q2 => rfl
    case q3 => rfl
    case q4 => rfl
    case q5 => rfl
    case q6 => rfl
    case q7 => rfl
    have J5 := (J3.keeps k5).aft (mAc_flat t cut i) rfl rfl a4 g4
    simp only [Rep] at r4; subst r4
    exact wpAny_truthy_bool ⟨rfl, J5⟩
  case turn =>
    intro i s3 hi J3
    refine no_mono ((?key2 : SX w _ _ (FI w { s with heap := cutH base } _ (mAc t cut i) [] (Zk _ s3.heap) (kept_off _ rfl)) _ (fun f s' => f = .next ∧ FIP w { s with heap := cutH base } _ (mAc t cut (i + 1)) [] (Zk _ s3.heap) s')) s3 J3.into) fun f s' ⟨e, F'⟩ => ⟨e, J3.out hL g F'⟩
    refine SX.aug (a := .int ((i + 1 : Nat) : Int)) (b := .int 1) (c := .int (((i + 1 : Nat) : Int) + 1)) ?b1 EV.int IOpV.add_int ?b2 ?b3 (SX.nil fun s' F' => ⟨rfl, FIP.weaken F' fun p hp => ?_⟩)
    case b1 => walk_at "lk"
    case b2 => kernel_rfl
    case b3 => rfl
    simp only [mAc, List.mem_cons, List.not_mem_nil, or_false] at hp
    rcases hp with rfl | rfl | rfl
    · exact at_here
    · walk_at "lk"
    · walk_at "lk"
  case after =>
    intro s3 J3
    refine no_mono ((?key3 : SX w _ _ (FI w { s with heap := cutH base } _ (mAc t cut n) [] (Zk _ s3.heap) (kept_off _ rfl)) _ (fun f s' => ∃ v, f = .ret v ∧ Rep s'.heap (.int ((n + 1 : Nat) : Int)) v ∧ Aft outer s s' ∧ G w base outer s'.heap)) s3 J3.into) fun f s' q => q
    refine SX.ret (pv := .int ((n + 1 : Nat) : Int)) ?b1 fun s' v F' r => ⟨v, rfl, r, (J3.out hL g F').fin hL⟩
    case b1 => walk_at "ev"
end
section
open Builtin.Str in
theorem call_split {w : World} {A : Around} {E : Value → Shared → Prop} {s : Shared} {Q : Value → Shared → Prop} {x y : Str} {t u : Tok} (hy : (y.length == 0) = false)
    (hq : ∀ l h' tk, l.map (·.1) = Txt.split x y → KpH s.heap h' → h'.get? s.heap.objs.size = some { cls := .type "list", data := .seq (strValues l).toArray } → Q (.ref s.heap.objs.size) { s with heap := h', toks := tk })
    (hsz : x.length ≤ sizeLine) (hsz2 : (partsBetween x (occurrences x y 0 x.length (x.length + 1)) y.length).length ≤ sizeLine) :
    wpAny (model PF w) A (call (.builtin "str.split") [.str x t, .str y u]) Q E s := by
  cases h1 : (decide (x.length < y.length) || decide (strKind x < strKind y))
  · cases hf : (occurrences x y 0 x.length (x.length + 1)).isEmpty
    · refine call_meets F.slot_str_split (typeIs_str _ _ _) F.entry_str_split (F.args_str_split_2 _ _) (meets_str_split_sep x y t u h1 hy hf hsz hsz2) ?_
      show wants Q E _ { s with toks := _, heap := s.heap.push { cls := .type "list", data := .seq (strsFrom s.toks (partsBetween x (occurrences x y 0 x.length (x.length + 1)) y.length)).toArray } }
      rw [strsFrom_eq]
      refine hq (numbered s.toks _) _ _ ((numbered_texts _ _).trans ?_) (fun b o e => Heap.get?_push_of_some _ e) (Heap.get?_push_size _ rfl)
      unfold Txt.split; rw [h1, hf]; rfl
    · refine call_meets F.slot_str_split (typeIs_str _ _ _) F.entry_str_split (F.args_str_split_2 _ _) (meets_str_split_not_found x y t u h1 hy hf) ?_
      refine hq [(x, t)] _ s.toks ?_ (fun b o e => Heap.get?_push_of_some _ e) (Heap.get?_push_size _ rfl)
      unfold Txt.split; rw [h1, hf]; rfl
  · refine call_meets F.slot_str_split (typeIs_str _ _ _) F.entry_str_split (F.args_str_split_2 _ _) (meets_str_split_cannot_occur x y t u h1) ?_
    refine hq [(x, t)] _ s.toks ?_ (fun b o e => Heap.get?_push_of_some _ e) (Heap.get?_push_size _ rfl)
    unfold Txt.split; rw [h1]; rfl
theorem repL_strValues (l : List (Str × Tok)) : ∀ g, RepL g ((l.map (·.1)).map .str) (strValues l) := by
  intro g
  induction l with
  | nil => simp only [List.map_nil, RepL]; rfl
  | cons p l ih =>
    simp only [List.map_cons, RepL]
    exact ⟨.str p.1 p.2, strValues l, rfl, rep_str, ih⟩
section
variable {w : World} {A : Around} {env : Env} {I : Inv}
theorem EVN.split {o e : Expr} {apos pos : Pos} {x y : Str} (ho : EV w A env I o (.str x)) (he : EV w A env I e (.str y)) (hy : (y.length == 0) = false) (hsz : x.length ≤ sizeLine) (hsz2 : (Builtin.Str.partsBetween x (Builtin.Str.occurrences x y 0 x.length (x.length + 1)) y.length).length ≤ sizeLine)
    (hbase : attributeBase o (Str.ofString "split") env (eval o env) = eval o env) (hs : starEach [e] env = [(false, eval e env)]) (hline : (apos.endLine == pos.line) = true) :
    EVN w A env I (.Call (.Attribute o (Str.ofString "split") apos) [e] [] pos) (.plist ((Txt.split x y).map .str)) := fun s F =>
  Call_method1 hbase hs hline (ho.use F fun v s' r k F' => by
    obtain ⟨h3, h4⟩ := str_type s' v r
    refine ⟨"str", "str.split", PySem.F.plainAttrs_str, PySem.F.slot_str_split, PySem.F.type_str_split, h3, h4, Calls.callWith_builtin rfl (Calls.evalArgs_plain (Calls.spliced_cons (he.use F' fun v2 s2 r2 k2 F2 => Calls.spliced_nil ?_)))⟩
    simp only [Rep] at r r2
    obtain ⟨t, rfl⟩ := r; obtain ⟨t2, rfl⟩ := r2
    refine call_split hy (fun l h' tk hl hk hg => ⟨⟨?_, kp_trans k (kp_trans k2 ⟨h', tk, rfl, hk⟩)⟩, fun a e => ?_⟩) hsz hsz2
    · simp only [Rep]
      refine ⟨_, _, rfl, ⟨0, hg⟩, ?_⟩
      rw [← hl]
      exact repL_strValues l _
    · cases e
      cases q : s.heap.get? s2.heap.objs.size with
      | none => rfl
      | some o => exact absurd (Heap.lt_size (kp_heap (kp_trans k k2) _ _ q)) (Nat.lt_irrefl _))
end
end
section
/-- data that a value tells -/
noncomputable def Told1 (p : PV) : Prop := (∃ x, p = .str x) ∨ ∃ l : List Str, p = .list (l.map .str)
theorem strs_det : ∀ {h h' : Heap} {l l' : List Str} {vs : List Value}, RepL h (l.map .str) vs → RepL h' (l'.map .str) vs → l = l'
  | _, _, [], [], _, _, _ => rfl
  | _, _, [], y :: l', vs, r, r' => by
    simp only [List.map_nil, RepL] at r; subst r
    simp only [List.map_cons, RepL] at r'; obtain ⟨_, _, e, _⟩ := r'; cases e
  | _, _, x :: l, [], vs, r, r' => by
    simp only [List.map_nil, RepL] at r'; subst r'
    simp only [List.map_cons, RepL] at r; obtain ⟨_, _, e, _⟩ := r; cases e
  | _, _, x :: l, y :: l', vs, r, r' => by
    simp only [List.map_cons, RepL, Rep] at r r'
    obtain ⟨_, _, rfl, ⟨t, rfl⟩, r⟩ := r
    obtain ⟨_, _, e, ⟨t', rfl⟩, r'⟩ := r'
    cases e
    rw [strs_det r r']
theorem told_det {h : Heap} {p q : PV} {v : Value} (hp : Told1 p) (hq : Told1 q) (r : Rep h p v) (r' : Rep h q v) : p = q := by
  rcases hp with ⟨x, rfl⟩ | ⟨l, rfl⟩ <;> rcases hq with ⟨y, rfl⟩ | ⟨l', rfl⟩ <;> simp only [Rep] at r r'
  · obtain ⟨t, rfl⟩ := r; obtain ⟨t', e⟩ := r'; cases e; rfl
  · obtain ⟨t, rfl⟩ := r; obtain ⟨_, _, e, _⟩ := r'; cases e
  · obtain ⟨_, _, rfl, _⟩ := r; obtain ⟨_, e⟩ := r'; cases e
  · obtain ⟨a, us, rfl, ⟨o, ho, hc, n, hd⟩, hr⟩ := r
    obtain ⟨a', us', e, ⟨o', ho', hc', n', hd'⟩, hr'⟩ := r'
    cases e
    rw [ho] at ho'; cases ho'
    rw [hd] at hd'; cases hd'
    rw [strs_det hr hr']
theorem paired_lists {h0 h' : Heap} {f : PV → List PV} : ∀ {vs ys : List Value} (items : List PV), (∀ p ∈ items, Told1 p) → Paired (LstIs h0 (fun v its => ∀ p, Told1 p → Rep h0 p v → ∀ g, RepL g (f p) its.toList) h') vs ys → (∀ (j : Nat) (v : Value), vs[j]? = some v → ∃ p, items[j]? = some p ∧ Rep h0 p v) → vs.length = items.length → RepL h' (items.map fun p => .list (f p)) ys
  | _, _, items, _, .nil, _, hl => by
    cases items with
    | nil => simp only [List.map_nil, RepL]
    | cons n ns => simp at hl
  | _, _, items, ht, .cons (a := a) (b := b) (l₁ := l₁) (l₂ := l₂) h1 hr, hv, hl => by
    cases items with
    | nil => simp at hl
    | cons p ps =>
      obtain ⟨p', e1, r⟩ := hv 0 a rfl
      simp at e1; subst e1
      obtain ⟨T, its, rfl, _, hT, hG⟩ := h1
      simp only [List.map_cons, RepL, Rep]
      exact ⟨_, l₂, rfl, ⟨T, its, rfl, hT, hG p (ht p (.head _)) r _⟩, paired_lists ps (fun q hq => ht q (.tail _ hq)) hr (fun j v e => by simpa using hv (j + 1) v (by simpa using e)) (by simpa using hl)⟩
section
variable {w : World} {A : Around} {env : Env} {I : Inv}
theorem cip_of {s s₃ : Shared} {s₂ : Heap} {scope : Scope} {cl : List (Str × Addr)} {C : Addr} {m₃ : Str → Option Value} {x : Str} {v : Value} {p : PV} {fm : List (Str × PV)} {wr : List Addr} (hI : I.Has w) (F : I.P s) (ks : KpH s.heap s₂) (hfree : ∀ b ∈ wr, s.heap.get? b = Option.none)
    (hk : ∀ b o, b ∉ wr → s₂.get? b = some o → s₃.heap.get? b = some o) (hn : s₃.heap.Ns C m₃) (hm : m₃ x = some v) (hr : Rep s₃.heap p v)
    (hfm : ∀ s, I.P s → ∀ x pv, fm.lookup x = some pv → ∃ c v, cl.lookup x = some c ∧ s.heap.IsCell c (some v) ∧ Rep s.heap pv v) :
    (CI w { s₃ with heap := s.heap } (compEnvC scope cl C env) [(x, p)] fm).P s₃ := by
  have hks : KpH s.heap s₃.heap := fun b o e => hk b o (fun hm => by rw [hfree b hm] at e; cases e) (ks b o e)
  refine ⟨hI.x s F, ⟨s₃.heap, s₃.toks, rfl, hks⟩, ⟨m₃, hn, fun y pv e => ?_⟩, fun y pv e => ?_⟩
  · simp only [List.lookup_cons, List.lookup_nil] at e
    cases hb : y == x with
    | true => rw [hb] at e; cases e; exact ⟨v, by rw [eq_of_beq hb]; exact hm, hr⟩
    | false => rw [hb] at e; cases e
  · obtain ⟨c, v, h1, h2, h3⟩ := hfm s F y pv e
    exact ⟨c, v, h1, h2.keeps hks, h3.keeps hks⟩
end
end
section
noncomputable def keepV (keep : Str → Bool) : Value → Bool | .str x _ => keep x | _ => false
theorem paired_strs {h : Heap} {keep : Str → Bool} : ∀ {vs ys : List Value} (l : List Str), Paired (fun (v y : Value) => ∃ x t t', v = Value.str x t ∧ y = Value.str x t') (vs.filter (keepV keep)) ys → (∀ (j : Nat) (v : Value), vs[j]? = some v → ∃ x t, l[j]? = some x ∧ v = Value.str x t) → vs.length = l.length → RepL h ((l.filter keep).map .str) ys := by
  intro vs
  induction vs with
  | nil =>
    intro ys l hp hv hl
    cases l with
    | nil => cases hp; simp only [List.filter_nil, List.map_nil, RepL]
    | cons x l => simp at hl
  | cons v vs ih =>
    intro ys l hp hv hl
    cases l with
    | nil => simp at hl
    | cons x l =>
      obtain ⟨x', t, e1, e2⟩ := hv 0 v rfl
      simp at e1; subst e1; subst e2
      have hv' : ∀ (j : Nat) (v : Value), vs[j]? = some v → ∃ x t, l[j]? = some x ∧ v = Value.str x t := fun j v e => by simpa using hv (j + 1) v (by simpa using e)
      have hl' : vs.length = l.length := by simpa using hl
      by_cases hk : keep x = true
      · rw [List.filter_cons_of_pos (show keepV keep (Value.str x t) = true from hk)] at hp
        rw [List.filter_cons_of_pos hk]
        cases hp with
        | cons h1 hr =>
          obtain ⟨x2, t2, t3, e, rfl⟩ := h1
          cases e
          simp only [List.map_cons, RepL]
          exact ⟨_, _, rfl, rep_str, ih l hr hv' hl'⟩
      · rw [List.filter_cons_of_neg (show ¬ keepV keep (Value.str x t) = true from hk)] at hp
        rw [List.filter_cons_of_neg hk]
        exact ih l hp hv' hl'
section
variable {w : World} {A : Around} {env : Env} {I : Inv}
/-- a comprehension that picks texts -/
theorem EVN.compF {elt iter test : Expr} {x : Str} {px pos : Pos} {scope : Scope} {cl : List (Str × Addr)} {l : List Str} {keep : Str → Bool} (fm : List (Str × PV)) (hit : ItV w A env I [] iter (l.map .str)) (hI : I.Has w)
    (hfm : ∀ s, I.P s → ∀ x pv, fm.lookup x = some pv → ∃ c v, cl.lookup x = some c ∧ s.heap.IsCell c (some v) ∧ Rep s.heap pv v)
    (hclos : closureFor scope env = pure cl) (hcell : ∀ y ∈ scope.names, y.2 ≠ .cell) (hkind : scope.kind = .function)
    (hnames : ∀ y ∈ scope.names, y.2 = .local → scope.names.lookup y.1 = some .local) (hx : scope.names.lookup x = some .local)
    (hsz : l.length ≤ sizeLine)
    (htest : ∀ s C y, y ∈ l → EB w A (compEnvC scope cl C env) (CI w s (compEnvC scope cl C env) [(x, .str y)] fm) test (keep y))
    (helt : ∀ s C y, y ∈ l → EV w A (compEnvC scope cl C env) (CI w s (compEnvC scope cl C env) [(x, .str y)] fm) elt (.str y))
    (hs : ∀ x, foldedSetIterable iter env x = pure x) :
    EVN w A env I (.ListComp elt [⟨.Name x px, iter, [test], 0⟩] scope pos) (.plist ((l.filter keep).map .str)) := fun s F => by
  refine wpAny_ListComp_free (keepV keep) (fun v y => ∃ x t t', v = Value.str x t ∧ y = Value.str x t') hclos hcell hkind hnames hx (hit s F _ _ fun s' it fp wr P St k ok => ?_) hs
  have hval : ∀ i v, P i v → ∃ y t, l[i]? = some y ∧ v = .str y t := fun i v hv => by
    obtain ⟨p, hp, rp⟩ := ok.vals i v hv
    rw [List.getElem?_map] at hp
    obtain ⟨n, hn, rfl⟩ := Option.map_eq_some_iff.mp hp
    simp only [Rep] at rp
    obtain ⟨t, rfl⟩ := rp
    exact ⟨n, t, hn, rfl⟩
  have hlen : (l.map PV.str).length = l.length := by simp
  refine ⟨it, fp, wr, _, P, St, rfl, ok.walks, by rw [hlen]; exact hsz, ok.st, fun b hb => by obtain ⟨o, e, _⟩ := ok.ex 0 _ ok.st b hb; exact Heap.lt_size e, ⟨?_, ?_⟩, ?_⟩
  · intro C i v s₃ m₃ E' hC hv hn hm hk _
    obtain ⟨y, t, hy, rfl⟩ := hval i v hv
    refine wpAny_tests_one (no_mono (htest { s₃ with heap := s.heap } C y (List.mem_of_getElem? hy) s₃ (cip_of hI F (kp_heap k) ok.free hk hn hm rep_str hfm)) fun b s₄ z => ?_)
    exact ⟨z.1, z.2⟩
  · intro C i v s₃ m₃ E' hC hv hpv hn hm hk _
    obtain ⟨y, t, hy, rfl⟩ := hval i v hv
    refine no_mono (helt { s₃ with heap := s.heap } C y (List.mem_of_getElem? hy) s₃ (cip_of hI F (kp_heap k) ok.free hk hn hm rep_str hfm)) fun v2 s₄ z => ?_
    have r := z.1
    simp only [Rep] at r
    obtain ⟨t', rfl⟩ := r
    exact ⟨⟨y, t, t', rfl, rfl⟩, z.2⟩
  · intro D h' tk ys vs hD hl hpl hlen' hP hF hk
    have hks : Keeps s { s' with heap := h', toks := tk } := by
      obtain ⟨h2, tk2, rfl, k2⟩ := k
      exact ⟨h', tk, rfl, fun b o e => hk b o (fun hm => by rw [ok.free b hm] at e; cases e) (k2 b o e)⟩
    refine ⟨⟨?_, hks⟩, fun a e => ?_⟩
    · simp only [Rep]
      refine ⟨D, ys, rfl, hpl, ?_⟩
      exact paired_strs l hF (fun j v e => hval j v (hP j v e)) (by rw [hlen', hlen])
    · cases e
      cases q : s.heap.get? D with
      | none => rfl
      | some o => have := kp_heap k _ _ q; rw [hD] at this; cases this
end
end
section
theorem slot_bool_hash : Slot "bool" (Str.ofString "__hash__") "int.__hash__" :=
  .of (owner := "int") (n := "__hash__") (by rw [typeLookup_type, builtinLookup_eq_fast]; kernel_rfl) (by decide +kernel) (by decide +kernel) (by decide +kernel)
    (by first | exact .inl (by decide +kernel) | exact .inr (by decide +kernel)) (by rw [isSubtype_type]; kernel_rfl)
theorem sub_bool_int : isSubtype (.type "bool") (.type "int") = pure true := by rw [isSubtype_type]; kernel_rfl
theorem hash_true {w : World} {A : Around} {E : Value → Shared → Prop} {s : Shared} {Q : Int → Shared → Prop} (h : ∀ tk, Q 1 { s with toks := tk }) : wpAny (model PF w) A (pyHash (.bool true)) Q E s := by
  obtain ⟨hp, g, d, tk, os⟩ := s
  have hT : (⟨hp, g, d, tk, os⟩ : Shared).TypeIs (.bool true) "bool" := rfl
  show wpAny _ _ (pyHashByItsType (.bool true)) _ _ _
  unfold pyHashByItsType
  have hv : [Value.bool true].any Value.onHeap = false := rfl
  refine wpAny_bind ?_
  rw [cRoomFor, if_neg (by rw [hv]; exact Bool.false_ne_true)]; refine wpAny_pure ?_
  refine wpAny_bind (wpAny_specialOf hT slot_bool_hash.lookup ?_)
  show wpAny _ _ (if (some (Value.builtin "int.__hash__") == some Value.none) = true then _ else _) Q E _
  rw [if_neg (by decide)]
  refine wpAny_bind (wpAny_specialOf hT slot_bool_hash.lookup ?_)
  show wpAny _ _ (callSpecialIfBoundUnlessNone? (.bool true) "__hash__" _ >>= _) Q E _
  refine wpAny_bind (wpAny_callSpecialIfBoundUnlessNone?_slot hT slot_bool_hash
    (wpAny_call_entry slot_bool_hash hT F.entry_int_hash ?_ (F.args_int_hash_1 _)))
  show wpAny _ _ (do ret (← mkInt (1 : Int))) _ _ _
  refine wpAny_ret_mkInt ?_
  show wpAny _ _ (if (decide (-(2 : Int) ^ 63 ≤ 1) && decide ((1 : Int) < 2 ^ 63)) = true then _ else _) Q E _
  rw [if_pos (by decide)]
  exact wpAny_pure (h _)
noncomputable abbrev setO (led : Bool) : Obj := { cls := .type "set", dict := none, data := .set #[] 0 (.fresh 0 0 led) }
noncomputable abbrev tabT (led : Bool) : SetTable := { mask := 7, place := #[1], dummies := #[], finger := 0, led := led, moves := 0, plain := true }
noncomputable abbrev setT (ep : Nat) (led : Bool) : Obj := { cls := .type "set", dict := none, data := .set #[(1, .bool true)] ep (tabT led) }
theorem put_first (led : Bool) : Obj.putSet #[(1, .bool true)] (tabT led) (setO led) = setT 1 led := rfl
theorem lay_first (led : Bool) : layNew (.fresh 0 0 led) #[] 1 (.bool true) = (#[(1, .bool true)], tabT led, false, false) := by
  cases led <;> decide +kernel
section
variable {w : World} {A : Around} {E : Value → Shared → Prop} {s : Shared} {Q : Value → Shared → Prop} {a : Addr} {led : Bool}
theorem add_first (ho : s.heap.get? a = some (setO led)) (h : ∀ h' tk, Heap.SameBut a s.heap h' → h'.get? a = some (setT 1 led) → Q .none { s with heap := h', toks := tk }) :
    wpAny (model PF w) A (call (.builtin "set.add") [.ref a, .bool true]) Q E s := by
  have hT : s.TypeIs (.ref a) "set" := ⟨_, ho, rfl⟩
  refine wpAny_call_entry F.slot_set_add hT F.entry_set_add ?_ (F.args_set_add_2 _ _)
  unfold Builtin.«set.add» Builtin.Frozenset.oneOther
  simp only [List.isEmpty_nil, bind_assoc]
  unfold Builtin.Frozenset.addrOf setAdd
  refine wpAny_bind (wpAny_pure ?_)
  try dsimp only
  refine wpAny_bind (wpAny_pure ?_)
  try dsimp only
  refine wpAny_bind ?_
  refine wpAny_holding ?_
  refine wpAny_bind (hash_true fun tk => ?_)
  unfold setAddHashed setAddHashedIn
  refine wpAny_holding ?_
  refine wpAny_bind (wpAny_setState_of (s := { s with toks := tk }) ho rfl (by rfl) ?_)
  dsimp only
  rw [if_pos (show byScan (.bool true) #[] = true by decide +kernel)]
  refine wpAny_bind ?_
  unfold setAddByScan
  rw [lay_first]
  dsimp only
  refine wpAny_bind (wpAny_rule ?_)
  refine wpAny_bind (wpAny_pure (a := ScanMet.absent) ?_)
  refine wpAny_bind (wpAny_pure ?_)
  rw [if_pos rfl, hashByValue_scannable 8 (by rfl)]
  refine wpAny_bind (wpAny_pure ?_)
  simp only [show plainKind (.bool true) = true from rfl, if_true]
  refine wpAny_bind (wpAny_storeSet_of (s := { s with toks := tk }) ho rfl ?_ (by decide))
  rw [if_neg (show ¬ ((!false && (tabT led).tooFull) = true) by cases led <;> decide +kernel)]
  refine wpAny_pure (wpAny_pure ?_)
  have hg : (s.heap.update a (Obj.putSet #[(1, .bool true)] (tabT led))).get? a = some (setT 1 led) := by
    rw [Heap.get?_update_self _ ho rfl, put_first]
  exact wpAny_pure ⟨_, rfl, h _ tk (Heap.SameBut.update ..) hg⟩
theorem add_again {ep : Nat} (ho : s.heap.get? a = some (setT ep led)) (h : ∀ tk, Q .none { s with toks := tk }) :
    wpAny (model PF w) A (call (.builtin "set.add") [.ref a, .bool true]) Q E s := by
  have hT : s.TypeIs (.ref a) "set" := ⟨_, ho, rfl⟩
  refine wpAny_call_entry F.slot_set_add hT F.entry_set_add ?_ (F.args_set_add_2 _ _)
  unfold Builtin.«set.add» Builtin.Frozenset.oneOther
  simp only [List.isEmpty_nil, bind_assoc]
  unfold Builtin.Frozenset.addrOf setAdd
  refine wpAny_bind (wpAny_pure ?_)
  try dsimp only
  refine wpAny_bind (wpAny_pure ?_)
  try dsimp only
  refine wpAny_bind ?_
  refine wpAny_holding ?_
  refine wpAny_bind (hash_true fun tk => ?_)
  unfold setAddHashed setAddHashedIn
  refine wpAny_holding ?_
  refine wpAny_bind (wpAny_setState_of (s := { s with toks := tk }) ho rfl (by cases led <;> decide +kernel) ?_)
  dsimp only
  rw [if_pos (show byScan (.bool true) #[(1, .bool true)] = true by decide +kernel)]
  refine wpAny_bind ?_
  unfold setAddByScan
  refine wpAny_bind (wpAny_rule ?_)
  refine wpAny_bind ?_
  show wpAny _ _ (setScanFrom a (.bool true) 1 true [(1, .bool true)] 0) _ _ _
  unfold setScanFrom
  rw [if_pos (by decide)]
  refine wpAny_bind (wpAny_setEpoch_of (s := { s with toks := tk }) ho rfl (by cases led <;> decide +kernel) ?_)
  unfold eqBool
  rw [if_pos (by decide)]
  refine wpAny_bind (wpAny_bind (wpAny_rule (wpAny_pure ?_)))
  rw [if_pos (by decide)]
  refine wpAny_pure (wpAny_pure (wpAny_pure ?_))
  exact wpAny_pure ⟨_, rfl, h tk⟩
end
end
section
theorem compTurn_set1 (elt target iter : Expr) (scope : Scope) (pos : Pos) (it acc : Value) (env : Env) :
    compTurn (.SetComp elt [⟨target, iter, [], 0⟩] scope pos) 0 it acc env = (standAt iter.pos >>= fun _ => pyNext it >>= fun r => match r with
      | none => pure (.done .next)
      | some v => letOwnedTupleGo target it v >>= fun _ => assign target env v >>= fun _ =>
        (eval elt env >>= fun x => standAt elt.pos >>= fun _ => call (.builtin "set.add") [acc, x] >>= fun _ => pure ()) >>= fun _ =>
          again (.compLoop (.SetComp elt [⟨target, iter, [], 0⟩] scope pos) 0 it acc env)) := by rfl
section
variable {w : World} {A : Around} {E : Value → Shared → Prop} {R : Result → Shared → Prop} {s : Shared}
theorem compStart_set {elt target iter ifs rest scope pos it acc env}
    (h0 : codeAny (model PF w) A (.compLoop (.SetComp elt (⟨target, iter, ifs, 0⟩ :: rest) scope pos) 0 it acc env) R s)
    (h : wpAny (model PF w) A (pyIter it) (fun it' s' => codeAny (model PF w) A (.compLoop (.SetComp elt (⟨target, iter, ifs, 0⟩ :: rest) scope pos) 0 it' acc env) R s')
      (notedBy (model PF w) A env fun x s' => R (.error x) s') s) :
    codeAny (model PF w) A (.compStart (.SetComp elt (⟨target, iter, ifs, 0⟩ :: rest) scope pos) 0 it acc env) R s := by
  refine codeAny_of_tree ?_
  show wpAny _ _ ((compStart (.SetComp elt (⟨target, iter, ifs, 0⟩ :: rest) scope pos) 0 it acc env).onRaise (fun x => do noteFrame x env; standAt theWindowsPlace)) _ _ s
  refine wpAny_notedAt ?_
  unfold compStart
  show wpAny _ _ (ask >>= _) _ _ s
  refine wpAny_bind (wpAny_askSetting (wpAny_ite ?_))
  split
  · first
      | exact wpAny_bind (wpAny_pure (wpAny_pure (And.intro rfl h0)))
      | exact wpAny_pure (And.intro rfl h0)
  · first
      | exact wpAny_bind (wpAny_rule (wpAny_bind (wpAny_standAt (wpAny_bind (wpAny_mono h (fun it' s' h' => wpAny_pure (And.intro rfl h')) fun _ _ x => x)))))
      | (refine wpAny_bind (wpAny_rule ?_); show wpAny _ _ (standAt iter.pos >>= _) _ _ s; exact wpAny_bind (wpAny_standAt (wpAny_bind (wpAny_mono h (fun it' s' h' => wpAny_pure (And.intro rfl h')) fun _ _ x => x))))
theorem compLoop_set {elt target iter : Expr} {scope : Scope} {pos : Pos} {it acc : Value} {env : Env} (I : Nat → Shared → Prop)
    (turn : ∀ n s, I n s → wpAny (model PF w) A (pyNext it) (fun r s₁ => match r with
      | none => R (.ok .next) s₁
      | some v => wpAny (model PF w) A (assign target env v) (fun _ s₂ => wpAny (model PF w) A (eval elt env) (fun x s₃ =>
          wpAny (model PF w) A (call (.builtin "set.add") [acc, x]) (fun _ s₄ => ∃ m, m < n ∧ I m s₄) (notedBy (model PF w) A env fun e s' => R (.error e) s') s₃)
          (notedBy (model PF w) A env fun e s' => R (.error e) s') s₂) (notedBy (model PF w) A env fun e s' => R (.error e) s') s₁) (notedBy (model PF w) A env fun e s' => R (.error e) s') s)
    (n : Nat) (h : I n s) (ht : ∀ v, letOwnedTupleGo target it v = pure () := by intro _; rfl) :
    codeAny (model PF w) A (.compLoop (.SetComp elt [⟨target, iter, [], 0⟩] scope pos) 0 it acc env) R s := by
  refine codeAny_loop rfl I (fun n s hI => ?_) n h
  show wpAny _ _ ((compTurn (.SetComp elt [⟨target, iter, [], 0⟩] scope pos) 0 it acc env).onRaise (fun x => do noteFrame x env; theTreesLotGoes x)) _ _ s
  refine wpAny_noted ?_
  rw [compTurn_set1]
  refine wpAny_bind (wpAny_standAt (wpAny_bind (wpAny_mono (turn n s hI) (fun r s₁ h₁ => ?_) fun _ _ h' => h')))
  cases r with
  | none => exact wpAny_pure h₁
  | some v =>
    refine wpAny_bind (wpAny_of_eq (ht v) ?_)
    exact wpAny_bind (wpAny_mono h₁ (fun _ s₂ h₂ => wpAny_bind (wpAny_bind (wpAny_mono h₂ (fun x s₃ h₃ => wpAny_bind (wpAny_standAt (wpAny_bind (wpAny_mono h₃
      (fun _ s₄ h₄ => wpAny_pure (wpAny_pure ⟨rfl, h₄⟩)) fun _ _ h' => h')))) fun _ _ h' => h'))) fun _ _ h' => h')
noncomputable def setAt (led : Bool) : Nat → Obj | 0 => setO led | _ + 1 => setT 1 led
theorem add_at {a : Addr} {led : Bool} {Q : Value → Shared → Prop} {n : Nat} (ho : s.heap.get? a = some (setAt led n)) (h : ∀ h' tk, Heap.SameBut a s.heap h' → h'.get? a = some (setAt led (n + 1)) → Q .none { s with heap := h', toks := tk }) :
    wpAny (model PF w) A (call (.builtin "set.add") [.ref a, .bool true]) Q E s := by
  cases n with
  | zero => exact add_first ho h
  | succ n => exact add_again ho fun tk => h s.heap tk (Heap.SameBut.refl ..) ho
theorem compLoop_setT {elt iter : Expr} {x : Str} {px : Pos} {scope : Scope} {pos : Pos} {I D : Addr} {fp wr : List Addr} {n : Nat} {P : Nat → Value → Prop} {St : Nat → Heap → Prop} {led : Bool}
    {cenv : Env} {m : Str → Option Value} (W : Walks PF w A I fp wr n P St)
    (hx : cenv.kindOf x = some .local) (hp : (cenv.scope.kind == .class || (cenv.scope.kind == .module && cenv.locals != cenv.globals)) = false)
    (hDC : D ≠ cenv.locals) (hDf : D ∉ fp) (hCf : cenv.locals ∉ fp)
    (hst : St 0 s.heap) (hacc : s.heap.get? D = some (setO led)) (hn : s.heap.Ns cenv.locals m)
    (helt : ∀ i v s₂ m₂, P i v → s₂.heap.Ns cenv.locals m₂ → m₂ x = some v → (∀ b o, b ≠ cenv.locals → b ∉ wr → b ≠ D → s.heap.get? b = some o → s₂.heap.get? b = some o) →
      wpAny (model PF w) A (eval elt cenv) (fun y s₃ => y = .bool true ∧ Keeps s₂ s₃) (notedBy (model PF w) A cenv fun e s' => R (.error e) s') s₂)
    (hR : ∀ h' tk m', h'.Ns cenv.locals m' → h'.get? D = some (setAt led n) → 
      (∀ b o, b ≠ cenv.locals → b ∉ wr → b ≠ D → s.heap.get? b = some o → h'.get? b = some o) → R (.ok .next) { s with heap := h', toks := tk }) :
    codeAny (model PF w) A (.compLoop (.SetComp elt [⟨.Name x px, iter, [], 0⟩] scope pos) 0 (.ref I) (.ref D) cenv) R s := by
  refine compLoop_set
    (fun k s' => ∃ h' tk m' j, s' = { s with heap := h', toks := tk } ∧ St j h' ∧ h'.get? D = some (setAt led j) ∧ h'.Ns cenv.locals m' ∧ j ≤ n ∧ k = n + 1 - j ∧
      (∀ b o, b ≠ cenv.locals → b ∉ wr → b ≠ D → s.heap.get? b = some o → h'.get? b = some o) ∧ s.toks ≤ tk) ?_ (n + 1)
    ⟨s.heap, s.toks, m, 0, rfl, hst, hacc, hn, Nat.zero_le _, rfl, fun _ _ _ _ _ e => e, Nat.le_refl _⟩
  rintro k s' ⟨H, tk, m', j, rfl, hst', hacc', hn', hi, rfl, hk, htk⟩
  have hCw : cenv.locals ∉ wr := fun h => hCf (W.sub _ h)
  have hDw : D ∉ wr := fun h => hDf (W.sub _ h)
  by_cases hlt : j < n
  · refine wpAny_with_toks (n := s.toks) htk (W.item j _ _ _ hlt hst' fun v h₁ tk₁ hPv hst₁ hk₁ htk₁ => ?_)
    refine wpAny_assign_Name (wpAny_storeName_local hx (hn'.at' fun o e => hk₁ _ o hCw e) (fun h₂ hn₂ hs₂ => ?_) hp)
    have up₂ : ∀ b o, b ≠ cenv.locals → b ∉ wr → H.get? b = some o → h₂.get? b = some o := fun b o hbC hbf e => hs₂.extBut b o hbC (hk₁ b o hbf e)
    have hst₂ : St (j + 1) h₂ := W.frame _ _ _ hst₁ fun b hb o e => hs₂.extBut b o (fun h => hCf (h ▸ hb)) e
    refine wpAny_mono (wpAny_toks_of (n := s.toks) (Nat.le_succ_of_le htk₁) (helt j v _ _ hPv hn₂ (by simp) (fun b o hbC hbf hbD e => up₂ b o hbC hbf (hk b o hbC hbf hbD e)))) (fun y s₃ h₃ => ?_) fun _ _ e => e.2
    obtain ⟨htk₃, rfl, h₃, tk₃, rfl, hk₃⟩ := h₃
    have hst₃ : St (j + 1) h₃ := W.frame _ _ _ hst₂ fun b _ o e => hk₃ b o e
    have hacc₃ := hk₃ _ _ (up₂ D _ hDC hDw hacc')
    have hn₃ := hn₂.keeps hk₃
    refine wpAny_mono (wpAny_toks_of (n := s.toks) htk₃ (add_at (Q := fun _ s₄ => ∃ h₅ tk₅, s₄ = { s with heap := h₅, toks := tk₅ } ∧ Heap.SameBut D h₃ h₅ ∧ h₅.get? D = some (setAt led (j + 1))) (E := notedBy (model PF w) A cenv fun e s' => R (.error e) s') hacc₃ fun h₅ tk₅ hs₅ hg₅ => ⟨h₅, tk₅, rfl, hs₅, hg₅⟩)) (fun y s₄ h₄ => ?_) fun _ _ e => e.2
    obtain ⟨htk₅, h₅, tk₅, rfl, hs₅, hg₅⟩ := h₄
    refine ⟨n + 1 - (j + 1), by omega, h₅, tk₅, _, j + 1, rfl, W.frame _ _ h₅ hst₃ fun b hb o e => hs₅.extBut b o (fun h => hDf (h ▸ hb)) e, hg₅, hn₃.sameBut hs₅ (Ne.symm hDC), hlt, rfl,
        fun b o hbC hbf hbD e => hs₅.extBut b o hbD (hk₃ b o (up₂ b o hbC hbf (hk b o hbC hbf hbD e))), htk₅⟩
  · have hin : j = n := by omega
    subst hin
    refine W.done _ _ _ hst' fun h₁ tk₁ hk₁ => ?_
    exact hR h₁ tk₁ m' (hn'.at' fun o e => hk₁ _ o hCw e) (hk₁ _ _ hDw hacc') fun b o hbC hbf hbD e => hk₁ b o hbf (hk b o hbC hbf hbD e)
theorem wp_newSet {Q : Value → Shared → Prop}
    (h : Q (.ref s.heap.objs.size) { s with heap := s.heap.push (setO (!w.params.followText "set-order")) }) :
    wpAny (model PF w) A (newSet (.type "set")) Q E s := by
  unfold newSet setsByText
  refine wpAny_bind (wpAny_bind (wpAny_askSetting (wpAny_pure ?_)))
  dsimp only
  simp only [newObj]
  exact wpAny_bind (wpAny_alloc (wpAny_pure h))
theorem comp_block_setT {elt iter : Expr} {x : Str} {px : Pos} {scope : Scope} {cl : List (Str × Addr)} {pos : Pos} {s₂ : Shared} {I : Addr} {fp wr : List Addr} {n : Nat} {P : Nat → Value → Prop} {env : Env}
    {St : Nat → Heap → Prop} (W : Walks PF w A I fp wr n P St) {RR : Value → Addr → Result → Shared → Prop}
    (hcell : ∀ y ∈ scope.names, y.2 ≠ .cell) (hkind : scope.kind = .function) (hx : scope.names.lookup x = some .local) (hst : St 0 s₂.heap) (hfp : ∀ b ∈ fp, b < s₂.heap.objs.size)
    (helt : ∀ C i v s₃ m₃ E', s₂.heap.objs.size ≤ C → P i v → s₃.heap.Ns C m₃ → m₃ x = some v → (∀ b o, b ∉ wr → s₂.heap.get? b = some o → s₃.heap.get? b = some o) →
      wpAny (model PF w) A (eval elt (compEnvC scope cl C env)) (fun y s₄ => y = .bool true ∧ Keeps s₃ s₄) E' s₃)
    (hRR : ∀ D C h' tk m', s₂.heap.get? D = none → s₂.heap.get? C = none → D ≠ C → h'.Ns C m' → h'.get? D = some (setAt (!w.params.followText "set-order") n) →
      (∀ b o, b ∉ wr → s₂.heap.get? b = some o → h'.get? b = some o) → RR (.ref D) C (.ok .next) { s₂ with heap := h', toks := tk }) :
    wpAny (model PF w) A (newSet (.type "set")) (fun acc s₃ => wpAny (model PF w) A (newFunctionEnv scope env.globals cl [] env.qual none .none (some env)) (fun cenv s₄ =>
      codeAny (model PF w) A (.compStart (.SetComp elt [⟨.Name x px, iter, [], 0⟩] scope pos) 0 (.ref I) acc { cenv with scope := relabel scope env }) (RR acc cenv.locals) s₄) E s₃) E s₂ := by
  refine wp_newSet (wpAny_newFunctionEnv hcell (by intro y hy; simp at hy) (fun h₁ hns₁ hsb₁ => ?_) hkind)
  dsimp only at hns₁ hsb₁ ⊢
  generalize hH2 : s₂.heap.push (setO (!w.params.followText "set-order")) = H2 at hns₁ hsb₁ ⊢
  have hC : H2.objs.size = s₂.heap.objs.size + 1 := by rw [← hH2, Heap.size_push]
  have hDC : s₂.heap.objs.size ≠ H2.objs.size := by rw [hC]; exact Nat.ne_of_lt (Nat.lt_succ_self _)
  have hCle : s₂.heap.objs.size ≤ H2.objs.size := by rw [hC]; exact Nat.le_succ _
  have below : ∀ b, b < s₂.heap.objs.size → b ≠ H2.objs.size ∧ b ≠ s₂.heap.objs.size := fun b hb => ⟨by rw [hC]; exact Nat.ne_of_lt (Nat.lt_succ_of_lt hb), Nat.ne_of_lt hb⟩
  have hDf : s₂.heap.objs.size ∉ fp := fun hm => Nat.lt_irrefl _ (hfp _ hm)
  have hCf : H2.objs.size ∉ fp := fun hm => by have := hfp _ hm; rw [hC] at this; exact Nat.lt_irrefl _ (Nat.lt_of_succ_lt this)
  have old : ∀ b o, s₂.heap.get? b = some o → h₁.get? b = some o := fun b o e => hsb₁.extBut b o (below b (Heap.lt_size e)).1 (Heap.get?_push_of_some _ (hH2 ▸ Heap.get?_push_of_some _ e))
  have hacc : h₁.get? s₂.heap.objs.size = some (setO (!w.params.followText "set-order")) := hsb₁.extBut _ _ hDC (Heap.get?_push_of_some _ (hH2 ▸ Heap.get?_push_size _ rfl))
  have hst₁ : St 0 h₁ := W.frame _ _ _ hst fun b _ o e => old b o e
  have fresh : ∀ a, s₂.heap.objs.size ≤ a → s₂.heap.get? a = none := fun a ha => by
    cases e : s₂.heap.get? a with
    | none => rfl
    | some o' => exact absurd (Heap.lt_size e) (Nat.not_lt.mpr ha)
  have loop : ∀ s₃ : Shared, s₃ = { s₂ with heap := h₁, toks := s₂.toks + ([] : List (Str × Value)).length } →
      codeAny (model PF w) A (.compLoop (.SetComp elt [⟨.Name x px, iter, [], 0⟩] scope pos) 0 (.ref I) (.ref s₂.heap.objs.size) (compEnvC scope cl H2.objs.size env))
        (RR (.ref s₂.heap.objs.size) H2.objs.size) s₃ := by
    rintro s₃ rfl
    refine compLoop_setT (cenv := compEnvC scope cl H2.objs.size env) W (lookup_relabel_local hx) (by simp [compEnvC, relabel, hkind]) hDC hDf hCf hst₁ hacc hns₁
      (fun i v s₃ m₃ hv hn hm hk => helt _ i v s₃ m₃ _ hCle hv hn hm (fun b o hbf e => hk b o (below b (Heap.lt_size e)).1 hbf (below b (Heap.lt_size e)).2 (old b o e))) fun h' tk m' hn hg hk => ?_
    exact hRR _ _ h' tk m' (fresh _ (Nat.le_refl _)) (fresh _ (by rw [hC]; exact Nat.le_succ _)) hDC hn hg fun b o hbf e =>
      hk b o (below b (Heap.lt_size e)).1 hbf (below b (Heap.lt_size e)).2 (old b o e)
  exact compStart_set (loop _ rfl) (W.self 0 _ _ _ hst₁ (loop _ rfl))
end
section
variable {w : World} {A : Around} {env : Env} {I : Inv}
/-- a set comprehension whose every item is True -/
theorem setcomp {elt iter : Expr} {x : Str} {px pos : Pos} {scope : Scope} {cl : List (Str × Addr)} {items : List PV} (fm : List (Str × PV)) (hit : ItV w A env I [] iter items) (hI : I.Has w)
    (hfm : ∀ s, I.P s → ∀ x pv, fm.lookup x = some pv → ∃ c v, cl.lookup x = some c ∧ s.heap.IsCell c (some v) ∧ Rep s.heap pv v)
    (hclos : closureFor scope env = pure cl) (hcell : ∀ y ∈ scope.names, y.2 ≠ .cell) (hkind : scope.kind = .function)
    (hnames : ∀ y ∈ scope.names, y.2 = .local → scope.names.lookup y.1 = some .local) (hx : scope.names.lookup x = some .local)
    (helt : ∀ s C p, p ∈ items → EV w A (compEnvC scope cl C env) (CI w s (compEnvC scope cl C env) [(x, p)] fm) elt (.bool true))
    (hs : ∀ x, foldedSetIterable iter env x = pure x) {s : Shared} (F : I.P s) {Q : Value → Shared → Prop}
    (hQ : ∀ D s', s.heap.get? D = none → s'.heap.get? D = some (setAt (!w.params.followText "set-order") items.length) → Keeps s s' → Q (.ref D) s') :
    wpAny (model PF w) A (eval (.SetComp elt [⟨.Name x px, iter, [], 0⟩] scope pos) env) Q No s := by
  show wpAny _ _ (comprehension (.SetComp elt [⟨.Name x px, iter, [], 0⟩] scope pos) scope env (firstIterPos [⟨.Name x px, iter, [], 0⟩] pos) (newSet (.type "set")) (firstAsync [⟨.Name x px, iter, [], 0⟩]) (firstIter [⟨.Name x px, iter, [], 0⟩] env)) _ _ _
  refine wpAny_comprehension_free (use := Option.none) rfl hs hclos hkind hnames (hit s F _ _ fun s' it fp wr P St k ok => ?_)
  refine comp_block_setT (RR := fun acc C => compPost (model PF w) A No Option.none (fun v s'' => Q v s'') acc C) ok.walks hcell hkind hx ok.st (fun b hb => by obtain ⟨o, e, _⟩ := ok.ex 0 _ ok.st b hb; exact Heap.lt_size e) ?_ ?_
  · intro C i v s₃ m₃ E' hC hv hn hm hk
    obtain ⟨p, hp, rp⟩ := ok.vals i v hv
    have hseq : ∀ b o, (∀ vs n, o.data = .seq vs n → s'.heap.get? b = some o → s₃.heap.get? b = some o) := fun b o vs n d e => hk b o (fun hm => ok.nseq 0 _ ok.st b hm o e vs n d) e
    have hr3 := rp.keepsBut hseq
    refine no_mono (helt { s₃ with heap := s.heap } C p (List.mem_of_getElem? hp) s₃ (cip_of hI F (kp_heap k) ok.free hk hn hm hr3 hfm)) fun y s₄ z => ?_
    have r := z.1
    simp only [Rep] at r
    exact ⟨r, z.2⟩
  · intro D C h' tk m' hD hC hDC hn hg hk
    have hold : ∀ b o, s.heap.get? b = some o → h'.get? b = some o ∧ b ≠ C := fun b o e => by
      have e' := kp_heap k b o e
      exact ⟨hk b o (fun hm => by rw [ok.free b hm] at e; cases e) e', fun q => by rw [q, hC] at e'; cases e'⟩
    refine ⟨m', hn, fun h'' hs'' => hQ D _ ?_ (hs''.extBut D _ hDC hg) ?_⟩
    · cases q : s.heap.get? D with
      | none => rfl
      | some o => have := kp_heap k _ _ q; rw [hD] at this; cases this
    · obtain ⟨h2, tk2, rfl, k2⟩ := k
      exact ⟨h'', tk, rfl, fun b o e => hs''.extBut b o (hold b o e).2 (hold b o e).1⟩
end
end
section
theorem slot_seti_next : Slot "set_iterator" "__next__" "set_iterator.__next__" :=
  .of (owner := "set_iterator") (n := "__next__") (by rw [typeLookup_type, builtinLookup_eq_fast]; kernel_rfl) (by decide +kernel) (by decide +kernel) (by decide +kernel)
    (by first | exact .inl (by decide +kernel) | exact .inr (by decide +kernel)) (by rw [isSubtype_type]; kernel_rfl)
theorem entry_seti_next : entryFor table "set_iterator.__next__" = some Builtin.«set_iterator.__next__» := entryFor_of_tree (by kernel_rfl)
theorem entry_set_iter : entryFor table "set.__iter__" = some Builtin.«frozenset.__iter__» :=
  entryFor_alias (id' := "frozenset.__iter__") (by rw [fastTable_eq_tree]; kernel_rfl) rfl (by decide +kernel) (by rw [fastTable_eq_tree]; kernel_rfl)
section
variable {w : World} {A : Around} {E : Value → Shared → Prop} {s : Shared}
noncomputable abbrev ledW (w : World) : Bool := !w.params.followText "set-order"
noncomputable abbrev seO (a : Addr) (first i : Nat) : Obj := { cls := .type "set_iterator", data := .fields #[.int first 0, .int i 0, .ref a, .int 1 0, .int 1 0] }
theorem iter_setT {a : Addr} {Q : Value → Shared → Prop} (ho : s.heap.get? a = some (setT 1 (ledW w))) (h : Q (.ref s.heap.objs.size) { s with heap := s.heap.push (seO a 0 0) }) :
    wpAny (model PF w) A (pyIter (.ref a)) Q E s := by
  have hT : s.TypeIs (.ref a) "set" := ⟨_, ho, rfl⟩
  have hfit : (tabT (ledW w)).fits 1 = true := by cases ledW w <;> decide +kernel
  refine wpAny_pyIter_slot hT F.slot_set_iter (wpAny_call_entry F.slot_set_iter hT entry_set_iter ?_ (F.args_set_iter_1 _))
  unfold Builtin.«frozenset.__iter__»
  refine wpAny_bind (m := Builtin.Frozenset.slot0 "__iter__" _) (wpAny_pure ?_)
  unfold Builtin.Frozenset.sizeOf
  refine wpAny_bind (wpAny_bind (wpAny_setEntries_of ho rfl hfit (wpAny_pure ?_)))
  refine wpAny_bind ?_
  unfold setDrawn setsByText
  refine wpAny_bind (wpAny_setState_of ho rfl hfit ?_)
  dsimp only
  refine wpAny_bind (wpAny_bind (wpAny_askSetting (wpAny_pure ?_)))
  refine wpAny_pure ?_
  rw [if_neg (by simp; exact fun _ => rfl)]
  refine wpAny_bind (wpAny_pure ?_)
  refine wpAny_bind (wpAny_setEpoch_of ho rfl hfit ?_)
  exact wpAny_bind (wpAny_newObj_type (wpAny_pure ⟨_, rfl, "set_iterator", _, ⟨_, Heap.get?_push_size _ rfl, rfl⟩, slot_seti_next.lookup, h⟩))
noncomputable abbrev nxW (w : World) : Nat := if w.params.followText "set-order" then 0 else 2
theorem pick1 {f : Nat → Nat} {x : Int × Value} : pickOrder f #[x] = #[x] := by
  show pickOrder.go f 1 0 [x] #[] = #[x]
  unfold pickOrder.go
  simp only [List.length_singleton, Nat.mod_one, List.getElem?_cons_zero, List.eraseIdx_cons_zero]
  rfl
theorem next0 {a : Addr} {Q : Option (Value × Nat) → Shared → Prop} (ho : s.heap.get? a = some (setT 1 (ledW w))) (h : Q (some (.bool true, nxW w)) s) :
    wpAny (model PF w) A (setNext a 0 0 1) Q E s := by
  have hfit : (tabT (ledW w)).fits 1 = true := by cases ledW w <;> decide +kernel
  unfold setNext
  refine wpAny_bind (wpAny_setState_of ho rfl hfit ?_)
  dsimp only
  unfold setsByText
  refine wpAny_bind (wpAny_bind (wpAny_askSetting (wpAny_pure ?_)))
  show wpAny _ _ (if w.params.followText "set-order" = true then _ else _) _ _ _
  cases hb : w.params.followText "set-order"
  · rw [if_neg (by decide)]
    rw [show ledW w = true by simp [ledW, hb]]
    rw [show nxW w = 2 by simp [nxW, hb]] at h
    refine wpAny_of_eq (a := some (.bool true, 2)) rfl h
  · rw [if_pos rfl]
    rw [show nxW w = 0 by simp [nxW, hb]] at h
    rw [show ((1 : Nat) != 1) = false from rfl, if_neg (by decide)]
    unfold setWalk
    refine wpAny_bind (wpAny_bind (wpAny_setState_of ho rfl hfit ?_))
    dsimp only
    unfold setsByText
    refine wpAny_bind (wpAny_bind (wpAny_askSetting (wpAny_pure ?_)))
    show wpAny _ _ (if w.params.followText "set-order" = true then _ else _) _ _ _
    rw [hb, if_pos rfl]
    refine wpAny_bind (wpAny_askSetting (wpAny_pure ?_))
    rw [pick1]
    exact wpAny_pure h
theorem next1 {a : Addr} {Q : Option (Value × Nat) → Shared → Prop} (ho : s.heap.get? a = some (setT 1 (ledW w))) (h : Q none s) :
    wpAny (model PF w) A (setNext a (nxW w) 1 1) Q E s := by
  have hfit : (tabT (ledW w)).fits 1 = true := by cases ledW w <;> decide +kernel
  unfold setNext
  refine wpAny_bind (wpAny_setState_of ho rfl hfit ?_)
  dsimp only
  unfold setsByText
  refine wpAny_bind (wpAny_bind (wpAny_askSetting (wpAny_pure ?_)))
  show wpAny _ _ (if w.params.followText "set-order" = true then _ else _) _ _ _
  cases hb : w.params.followText "set-order"
  · rw [if_neg (by decide)]
    rw [show ledW w = true by simp [ledW, hb], show nxW w = 2 by simp [nxW, hb]]
    refine wpAny_of_eq (a := none) rfl h
  · rw [if_pos rfl]
    rw [show ((1 : Nat) != 1) = false from rfl, if_neg (by decide)]
    unfold setWalk
    refine wpAny_bind (wpAny_bind (wpAny_setState_of ho rfl hfit ?_))
    dsimp only
    unfold setsByText
    refine wpAny_bind (wpAny_bind (wpAny_askSetting (wpAny_pure ?_)))
    show wpAny _ _ (if w.params.followText "set-order" = true then _ else _) _ _ _
    rw [hb, if_pos rfl]
    refine wpAny_bind (wpAny_askSetting (wpAny_pure ?_))
    rw [pick1]
    exact wpAny_pure h
theorem args_seti_next (a : Value) : argsOk "set_iterator.__next__" ⟨[a], []⟩ := by
  unfold argsOk; rw [signature?_of (id := "set_iterator.__next__") (n := ['_', '_', 't', 'x', 'e', 'n', '_', '_']) (o := ['r', 'o', 't', 'a', 'r', 'e', 't', 'i', '_', 't', 'e', 's']) (rows := Manifest.sig_set_iterator) (by kernel_rfl) (by kernel_rfl)]; kernel_rfl
theorem pyNext0 {it a : Addr} {Q : Option Value → Shared → Prop} (hit : s.heap.get? it = some (seO a 0 0)) (ho : s.heap.get? a = some (setT 1 (ledW w)))
    (h : ∀ h', h'.get? it = some (seO a (nxW w) 1) → Heap.SameBut it s.heap h' → Q (some (.bool true)) { s with heap := h' }) :
    wpAny (model PF w) A (pyNext (.ref it)) Q E s := by
  have hT : s.TypeIs (.ref it) "set_iterator" := ⟨_, hit, rfl⟩
  have hfit : (tabT (ledW w)).fits 1 = true := by cases ledW w <;> decide +kernel
  unfold pyNext
  refine wpAny_bind (wpAny_attempt (wpAny_callSpecial?_slot (name := Str.ofString "__next__") hT slot_seti_next
    (wpAny_call_entry slot_seti_next hT entry_seti_next ?_ (args_seti_next _))))
  unfold Builtin.«set_iterator.__next__»
  refine wpAny_bind (m := slotArgs "__next__" 0 _) (wpAny_pure ?_)
  refine wpAny_bind (wpAny_fieldsOf hit rfl ?_)
  dsimp only
  refine wpAny_bind (wpAny_setEntries_of ho rfl hfit ?_)
  rw [if_neg (by decide)]
  refine wpAny_bind (next0 ho ?_)
  dsimp only
  refine wpAny_bind (wpAny_setField hit rfl (by simp) ?_)
  have e1 : (s.heap.update it (Obj.mapFields (·.setIfInBounds 0 (rawInt (nxW w))))).get? it = some (seO a (nxW w) 0) := by rw [Heap.get?_update_self _ hit rfl]; rfl
  refine wpAny_bind (wpAny_setField e1 rfl (by simp) ?_)
  have e2 : ((s.heap.update it (Obj.mapFields (·.setIfInBounds 0 (rawInt (nxW w))))).update it (Obj.mapFields (·.setIfInBounds 1 (rawInt 1)))).get? it = some (seO a (nxW w) 1) := by rw [Heap.get?_update_self _ e1 rfl]; rfl
  exact wpAny_pure ⟨_, rfl, wpAny_pure (h _ e2 ((Heap.SameBut.update ..).trans (Heap.SameBut.update ..)))⟩
theorem pyNext1 {it a : Addr} {Q : Option Value → Shared → Prop} (hh : A.handled = none) (hit : s.heap.get? it = some (seO a (nxW w) 1)) (ho : s.heap.get? a = some (setT 1 (ledW w)))
    (h : ∀ h' tk, Heap.ExtBut it s.heap h' → Q none { s with heap := h', toks := tk }) :
    wpAny (model PF w) A (pyNext (.ref it)) Q E s := by
  have hT : s.TypeIs (.ref it) "set_iterator" := ⟨_, hit, rfl⟩
  have hfit : (tabT (ledW w)).fits 1 = true := by cases ledW w <;> decide +kernel
  unfold pyNext
  refine wpAny_bind (wpAny_attempt (wpAny_callSpecial?_slot (name := Str.ofString "__next__") hT slot_seti_next
    (wpAny_call_entry slot_seti_next hT entry_seti_next ?_ (args_seti_next _))))
  unfold Builtin.«set_iterator.__next__»
  refine wpAny_bind (m := slotArgs "__next__" 0 _) (wpAny_pure ?_)
  refine wpAny_bind (wpAny_fieldsOf hit rfl ?_)
  dsimp only
  refine wpAny_bind (wpAny_setEntries_of ho rfl hfit ?_)
  rw [if_neg (by decide)]
  refine wpAny_bind (next1 ho ?_)
  dsimp only
  refine wpAny_bind (wpAny_setField hit rfl (by simp) ?_)
  show wpAny _ _ (newExc (.type "StopIteration") [] >>= _) _ _ _
  refine wpAny_bind ?_
  simp only [newExc, newTuple]
  refine wpAny_bind (wpAny_newObj_type ?_ (by size_fits))
  refine wpAny_bind (m := firstArgMember _ _) (wpAny_of_eq (a := Value.none) (by first | rfl | (simp only [firstArgMember]; rfl)) ?_)
  refine wpAny_newObj_type ?_ (by size_fits)
  simp only [raiseNew]
  refine wpAny_bind (wpAny_handled ?_)
  rw [show A.in1.handled = none from hh]
  refine wpAny_bind (wpAny_pure (wpAny_throw ?_))
  refine wpAny_bind (wpAny_isInstance (T := "StopIteration") (b := true) ⟨_, Heap.get?_push_size _ rfl, rfl⟩ isSubtype_stop ?_)
  exact wpAny_pure (h _ _ (((Heap.SameBut.update ..).extBut.push _).push _))
/-- `x, = {True}` -/
theorem unpack_setT {a : Addr} {Q : List Value → Shared → Prop} (hh : A.handled = none) (ho : s.heap.get? a = some (setT 1 (ledW w)))
    (h : ∀ s', Keeps s s' → Q [.bool true] s') : wpAny (model PF w) A (unpackItems (.ref a) 1 none) Q E s := by
  have hT : s.TypeIs (.ref a) "set" := ⟨_, ho, rfl⟩
  have hne : a ≠ s.heap.objs.size := Nat.ne_of_lt (Heap.lt_size ho)
  unfold unpackItems
  refine wpAny_bind ?_
  unfold notIterableAtAll
  refine wpAny_bind (wpAny_specialOf hT F.slot_set_iter.lookup ?_)
  refine wpAny_pure ?_
  simp only [Bool.false_eq_true, if_false]
  refine wpAny_bind (wpAny_holding (iter_setT ho ?_))
  refine wpAny_bind (wpAny_holding ?_)
  have ho1 := Heap.get?_push_of_some (seO a 0 0) ho
  show wpAny _ _ (pyNext (.ref s.heap.objs.size) >>= _) _ _ _
  refine wpAny_bind (pyNext0 (Heap.get?_push_size _ rfl) ho1 fun h1 e1 sb1 => ?_)
  refine wpAny_bind (wpAny_holding (wpAny_pure (wpAny_pure ?_)))
  rw [if_neg (by decide)]
  have ho2 := sb1.extBut _ _ hne ho1
  refine wpAny_bind (wpAny_holding (pyNext1 hh e1 ho2 fun h2 tk2 sb2 => ?_))
  simp only [Option.isSome_none, Bool.false_eq_true, if_false]
  refine wpAny_pure (h _ ⟨h2, tk2, rfl, fun b o e => ?_⟩)
  have hb : b ≠ s.heap.objs.size := Nat.ne_of_lt (Heap.lt_size e)
  exact sb2 _ _ hb (sb1.extBut _ _ hb (Heap.get?_push_of_some _ e))
end
end
section
open Sem (wp)
open AutoSeq1 (wpAny_loadPart')
theorem slot_map_init : Slot "map" "__init__" "object.__init__" :=
  .of (owner := "object") (n := "__init__") (by rw [typeLookup_type, builtinLookup_eq_fast]; kernel_rfl) (by decide +kernel) (by decide +kernel) (by decide +kernel)
    (by first | exact .inl (by decide +kernel) | exact .inr (by decide +kernel)) (by rw [isSubtype_type]; kernel_rfl)
theorem slot_map_iter : Slot "map" "__iter__" "map.__iter__" :=
  .of (owner := "map") (n := "__iter__") (by rw [typeLookup_type, builtinLookup_eq_fast]; kernel_rfl) (by decide +kernel) (by decide +kernel) (by decide +kernel)
    (by first | exact .inl (by decide +kernel) | exact .inr (by decide +kernel)) (by rw [isSubtype_type]; kernel_rfl)
theorem slot_map_next : Slot "map" "__next__" "map.__next__" :=
  .of (owner := "map") (n := "__next__") (by rw [typeLookup_type, builtinLookup_eq_fast]; kernel_rfl) (by decide +kernel) (by decide +kernel) (by decide +kernel)
    (by first | exact .inl (by decide +kernel) | exact .inr (by decide +kernel)) (by rw [isSubtype_type]; kernel_rfl)
theorem entry_map_iter : entryFor table "map.__iter__" = some Builtin.«dict_keyiterator.__iter__» :=
  entryFor_alias (id' := "dict_keyiterator.__iter__") (by rw [fastTable_eq_tree]; kernel_rfl) (by first | rfl | decide +kernel) (by decide +kernel) (by rw [fastTable_eq_tree]; kernel_rfl)
theorem entry_map_next : entryFor table "map.__next__" = some Builtin.«map.__next__» := entryFor_of_tree (by kernel_rfl)
theorem entry_map_new : entryFor table "map.__new__" = some Builtin.«map.__new__» := entryFor_of_tree (by kernel_rfl)
theorem args_map_next (a : Value) : argsOk "map.__next__" ⟨[a], []⟩ := by
  unfold argsOk; rw [signature?_of (id := "map.__next__") (n := ['_', '_', 't', 'x', 'e', 'n', '_', '_']) (o := ['p', 'a', 'm']) (rows := Manifest.sig_map) (by kernel_rfl) (by kernel_rfl)]; kernel_rfl
theorem args_map_iter (a : Value) : argsOk "map.__iter__" ⟨[a], []⟩ := by
  unfold argsOk; rw [signature?_of (id := "map.__iter__") (n := ['_', '_', 'r', 'e', 't', 'i', '_', '_']) (o := ['p', 'a', 'm']) (rows := Manifest.sig_map) (by kernel_rfl) (by kernel_rfl)]; kernel_rfl
theorem mro_map : mroOf (.type "map") = pure [.type "map", .type "object"] := by rw [mroOf_type]; kernel_rfl
theorem lookup_map_new : typeLookup (.type "map") "__new__" = pure (some (.builtin "map.__new__")) := by rw [typeLookup_type, builtinLookup_eq_fast]; kernel_rfl
theorem called_map : TypeCalled "map" "map.__new__" "object.__init__" :=
  ⟨by decide +kernel, by decide +kernel, ⟨_, _, mro_map⟩, madeBy_type mro_map lookup_map_new (by decide +kernel), by decide +kernel, by rw [isSubtype_type]; kernel_rfl, slot_map_init⟩
theorem typeCall_map_2 (a b : Value) : checkTypeCall "map" ⟨[a, b], []⟩ = pure () := by rw [Fast.te11612656972197000677]; kernel_rfl
theorem newCall_map_2 (a b : Value) : checkBuiltinCall "map.__new__" ⟨[.type "map", a, b], []⟩ = pure () := by rw [Fast.te10254737850608025244]; kernel_rfl
theorem sub_map : isSubtype (.type "map") (.type "map") = pure true := by rw [isSubtype_type]; kernel_rfl
noncomputable abbrev liO (l : Addr) : Obj := { cls := .type "list_iterator", data := .fields #[.ref l, .int 0 0] }
noncomputable abbrev tu1 (li : Addr) : Obj := { cls := .type "tuple", data := .seq #[.ref li] }
noncomputable abbrev mapO (f : Value) (T : Addr) : Obj := { cls := .type "map", data := .fields #[.ref T, f] }
theorem meets_map_new (f : Value) (l : Addr) (items : Array Value) (n : Nat) (dct : Option Addr) (sl : Array (Option Value)) :
    Meets (Builtin.«map.__new__» ⟨[.type "map", f, .ref l], []⟩) (fun _ R s => s.heap.get? l = some { cls := .type "list", dict := dct, data := .seq items n, slots := sl } ∧
      R (.ok (.ret (.ref ((s.heap.push (liO l)).push (tu1 s.heap.objs.size)).objs.size))) { s with heap := ((s.heap.push (liO l)).push (tu1 s.heap.objs.size)).push (mapO f (s.heap.push (liO l)).objs.size) }) :=
  .of_wp fun prog w A R s h => by
    obtain ⟨hp, g, d, tk, os⟩ := s; obtain ⟨hl, h⟩ := h
    have hsub := sub_map
    have hL : Heap.IsList (Shared.heap ⟨hp, g, d, tk, os⟩) l items := ⟨_, hl, rfl, n, rfl⟩
    wp_walk using wpAny_loadPart' hl, wpAny_pyIter_list hL
    all_goals exact ⟨_, rfl, h⟩
section
variable {w : World} {A : Around} {E : Value → Shared → Prop} {s : Shared}
theorem call_map {f : Value} {l : Addr} {items : Array Value} {Q : Value → Shared → Prop} (hL : s.heap.IsList l items)
    (h : ∀ h', h'.IsListIter s.heap.objs.size l 0 → h'.get? (s.heap.objs.size + 1) = some (tu1 s.heap.objs.size) → h'.get? (s.heap.objs.size + 2) = some (mapO f (s.heap.objs.size + 1)) → h'.objs.size = s.heap.objs.size + 3 → KpH s.heap h' → Q (.ref (s.heap.objs.size + 2)) { s with heap := h' }) :
    wpAny (model PF w) A (call (.type "map") [f, .ref l]) Q E s := by
  obtain ⟨⟨c, dct, dt, sl⟩, hl, hc, n, hd⟩ := hL
  replace hc : c = .type "list" := hc
  replace hd : dt = .seq items n := hd
  subst hc hd
  refine callType_new called_map (by decide) (typeCall_map_2 _ _) (newCall_map_2 _ _) (fun obj => F.args_object_init_3 obj _ _) entry_map_new
    (meets_map_new f l items n dct sl) ⟨hl, ?_⟩
  have z1 : (s.heap.push (liO l)).objs.size = s.heap.objs.size + 1 := Heap.size_push ..
  have z2 : ((s.heap.push (liO l)).push (tu1 s.heap.objs.size)).objs.size = s.heap.objs.size + 2 := by rw [Heap.size_push, z1]
  show _ ∧ _
  rw [z2, z1]
  have g3 : (((s.heap.push (liO l)).push (tu1 s.heap.objs.size)).push (mapO f (s.heap.objs.size + 1))).get? (s.heap.objs.size + 2) = some (mapO f (s.heap.objs.size + 1)) := by
    have := Heap.get?_push_size ((s.heap.push (liO l)).push (tu1 s.heap.objs.size)) (o := mapO f (s.heap.objs.size + 1)) rfl
    rw [z2] at this; exact this
  have g2 : ((s.heap.push (liO l)).push (tu1 s.heap.objs.size)).get? (s.heap.objs.size + 1) = some (tu1 s.heap.objs.size) := by
    have := Heap.get?_push_size (s.heap.push (liO l)) (o := tu1 s.heap.objs.size) rfl
    rw [z1] at this; exact this
  refine ⟨⟨_, g3, rfl⟩, h _ ⟨_, Heap.get?_push_of_some _ (Heap.get?_push_of_some _ (Heap.get?_push_size _ rfl)), rfl, rfl⟩ (Heap.get?_push_of_some _ g2) g3 (by rw [Heap.size_push, z2]) fun b o e => Heap.get?_push_of_some _ (Heap.get?_push_of_some _ (Heap.get?_push_of_some _ e))⟩
theorem map_item {I T li l : Addr} {i : Nat} {items : Array Value} {f x : Value} {Q : Option Value → Shared → Prop} (hI : s.heap.get? I = some (mapO f T)) (hT : s.heap.get? T = some (tu1 li)) (hne : I ≠ li) (hit : s.heap.IsListIter li l i) (hl : s.heap.IsList l items) (hx : items[i]? = some x)
    (hcall : ∀ h', h'.IsListIter li l (i + 1) → Heap.SameBut li s.heap h' → wpAny (model PF w) A.in1 (call f [x]) (fun v s' => Q (some v) s') No { s with heap := h' }) :
    wpAny (model PF w) A (pyNext (.ref I)) Q E s := by
  have hTy : s.TypeIs (.ref I) "map" := ⟨_, hI, rfl⟩
  obtain ⟨o, ho, hc, hd⟩ := id hit
  obtain ⟨ol, hol, _, nl, hdl⟩ := hl
  unfold pyNext
  refine wpAny_bind (wpAny_attempt (wpAny_callSpecial?_slot (name := Str.ofString "__next__") hTy slot_map_next
    (wpAny_call_entry slot_map_next hTy entry_map_next ?_ (args_map_next _))))
  unfold Builtin.«map.__next__»
  refine wpAny_bind (m := slotArgs "__next__" 0 _) (wpAny_pure ?_)
  dsimp only
  refine wpAny_bind (wpAny_field hI rfl (x := .ref T) rfl ?_)
  refine wpAny_bind (wpAny_seqItems hT rfl ?_)
  dsimp only
  simp only [← Array.forIn_toList, List.forIn_cons, List.forIn_nil]
  refine wpAny_bind (wpAny_bind (wpAny_bind (wpAny_holding ?_)))
  unfold Builtin.SmallTypes.nextOf
  refine wpAny_bind (wpAny_callSpecial?_slot (name := Str.ofString "__next__") hit.typeIs slot_listiter_next
    (wpAny_call_entry slot_listiter_next hit.typeIs entry_listiter_next ?_ (args_listiter_next _)))
  show wpAny _ _ (field (.ref li) 0 >>= _) _ _ s
  refine wpAny_bind (wpAny_field ho hd (x := .ref l) rfl ?_)
  show wpAny _ _ (if (Value.ref l == Value.none) = true then _ else _) _ _ s
  rw [if_neg (show ¬ ((Value.ref l == Value.none) = true) from Bool.false_ne_true)]
  show wpAny _ _ (field (.ref li) 1 >>= _) _ _ s
  refine wpAny_bind (wpAny_field ho hd (x := .int i 0) rfl ?_)
  show wpAny _ _ (seqItems? (.ref l) >>= _) _ _ s
  refine wpAny_bind (wpAny_seqItems hol hdl ?_)
  simp only [Int.toNat_natCast, hx]
  refine wpAny_bind (wpAny_setField ho hd (by simp) (wpAny_pure ⟨x, rfl, wpAny_pure (wpAny_pure (wpAny_pure ?_))⟩))
  refine wpAny_bind (wpAny_field (s := { s with heap := s.heap.update li _ }) ((Heap.SameBut.update ..).extBut _ _ hne hI) rfl (x := f) rfl ?_)
  refine wpAny_bind (wpAny_holding ?_)
  refine no_mono (hcall _ ⟨_, Heap.get?_update_self _ ho (Obj.isFreed_of_fields (Obj.data_mapFields hd _)), (Obj.cls_mapFields ..).trans hc, by
    rw [Obj.data_mapFields hd]; simp [rawInt]⟩ (Heap.SameBut.update ..)) fun v s' q => ?_
  refine wpAny_bind (wpAny_letGo ?_)
  exact wpAny_pure ⟨_, rfl, wpAny_pure q⟩
theorem map_end {I T li l : Addr} {i : Nat} {items : Array Value} {f : Value} {Q : Option Value → Shared → Prop} (hh : A.handled = Option.none) (hI : s.heap.get? I = some (mapO f T)) (hT : s.heap.get? T = some (tu1 li)) (hit : s.heap.IsListIter li l i) (hl : s.heap.IsList l items) (hx : items[i]? = Option.none)
    (hQ : ∀ h', Heap.ExtBut li s.heap h' → Q Option.none { s with heap := h' }) :
    wpAny (model PF w) A (pyNext (.ref I)) Q E s := by
  have hTy : s.TypeIs (.ref I) "map" := ⟨_, hI, rfl⟩
  obtain ⟨o, ho, hc, hd⟩ := id hit
  obtain ⟨ol, hol, _, nl, hdl⟩ := hl
  unfold pyNext
  refine wpAny_bind (wpAny_attempt (wpAny_callSpecial?_slot (name := Str.ofString "__next__") hTy slot_map_next
    (wpAny_call_entry slot_map_next hTy entry_map_next ?_ (args_map_next _))))
  unfold Builtin.«map.__next__»
  refine wpAny_bind (m := slotArgs "__next__" 0 _) (wpAny_pure ?_)
  dsimp only
  refine wpAny_bind (wpAny_field hI rfl (x := .ref T) rfl ?_)
  refine wpAny_bind (wpAny_seqItems hT rfl ?_)
  dsimp only
  simp only [← Array.forIn_toList, List.forIn_cons, List.forIn_nil]
  refine wpAny_bind (wpAny_bind (wpAny_bind (wpAny_holding ?_)))
  unfold Builtin.SmallTypes.nextOf
  refine wpAny_bind (wpAny_callSpecial?_slot (name := Str.ofString "__next__") hit.typeIs slot_listiter_next
    (wpAny_call_entry slot_listiter_next hit.typeIs entry_listiter_next ?_ (args_listiter_next _)))
  show wpAny _ _ (field (.ref li) 0 >>= _) _ _ s
  refine wpAny_bind (wpAny_field ho hd (x := .ref l) rfl ?_)
  show wpAny _ _ (if (Value.ref l == Value.none) = true then _ else _) _ _ s
  rw [if_neg (show ¬ ((Value.ref l == Value.none) = true) from Bool.false_ne_true)]
  show wpAny _ _ (field (.ref li) 1 >>= _) _ _ s
  refine wpAny_bind (wpAny_field ho hd (x := .int i 0) rfl ?_)
  show wpAny _ _ (seqItems? (.ref l) >>= _) _ _ s
  refine wpAny_bind (wpAny_seqItems hol hdl ?_)
  simp only [Int.toNat_natCast, hx]
  refine wpAny_bind (wpAny_rule (wpAny_bind (wpAny_setField ho hd (by simp) ?_)))
  show wpAny _ _ (newExc (.type "StopIteration") [] >>= _) _ _ _
  refine wpAny_bind ?_
  simp only [newExc, newTuple]
  refine wpAny_bind (wpAny_newObj_type ?_ (by size_fits))
  refine wpAny_bind (m := firstArgMember _ _) (wpAny_of_eq (a := Value.none) (by first | rfl | (simp only [firstArgMember]; rfl)) ?_)
  refine wpAny_newObj_type ?_ (by size_fits)
  simp only [raiseNew]
  refine wpAny_bind (wpAny_handled ?_)
  rw [show A.in1.in1.handled = Option.none from hh]
  refine wpAny_bind (wpAny_pure (wpAny_throw ?_))
  refine wpAny_bind (wpAny_isInstance (T := "StopIteration") (b := true) ⟨_, Heap.get?_push_size _ rfl, rfl⟩ isSubtype_stop ?_)
  exact wpAny_pure (hQ _ (((Heap.SameBut.update ..).extBut.push _).push _))
end
end
section
open Sem (wp)
open AutoSeq1 (wpAny_loadPart')
section
variable {w : World} {A : Around} {E : Value → Shared → Prop} {s : Shared}
structure MapSt (hb : Heap) (I T li l : Addr) (f : Value) (items : Array Value) (i : Nat) (s : Shared) : Prop where
  kp : KpH hb s.heap
  mp : s.heap.get? I = some (mapO f T)
  tu : s.heap.get? T = some (tu1 li)
  it : s.heap.IsListIter li l i
  ls : s.heap.IsList l items
theorem walks_map {hb : Heap} {I T li l N : Addr} {items : Array Value} (hA : Lv 3 A) (X : XAt w hb) (hli : hb.get? li = Option.none) (h1 : I ≠ li) (h2 : T ≠ li) (h3 : l ≠ li) (hN : hb.objs.size ≤ N) (n1 : I < N) (n2 : T < N) (n3 : l < N) (n4 : li < N)
    (hs : ∀ (i : Nat) (v : Value), items[i]? = some v → ∃ x t, v = Value.str x t) :
    WalksS PF w A I (List.range N) [li] (fun a b => b = a) items.size (fun i v => ∃ x t t', items[i]? = some (Value.str x t) ∧ v = Value.str x t') (MapSt hb I T li l (.ref 141) items) where
  sub := by intro b hb; simp only [List.mem_singleton] at hb; subst hb; exact List.mem_range.mpr n4
  grefl := fun _ => rfl
  gtrans := fun _ _ _ x y => y.trans x
  frame := by
    intro i s h' tk st htk hk
    have kk : ∀ b, b < N → ∀ o, s.heap.get? b = some o → h'.get? b = some o := fun b hb o e => hk b (List.mem_range.mpr hb) o e
    refine ⟨fun b o e => kk b (Nat.lt_of_lt_of_le (Heap.lt_size e) hN) o (st.kp b o e), kk _ n1 _ st.mp, kk _ n2 _ st.tu, ?_, st.ls.at fun o e => kk _ n3 o e⟩
    obtain ⟨o, ho, r⟩ := st.it
    exact ⟨o, kk _ n4 _ ho, r⟩
  item := by
    intro i s Q E hi st hQ
    obtain ⟨x, t, hx⟩ := hs i items[i] (by simp [hi])
    have hx' : items[i]? = some (.str x t) := by rw [← hx]; simp [hi]
    refine wpAny_with_toks (Nat.le_refl s.toks) (map_item st.mp st.tu h1 st.it st.ls hx' fun h' hit hsb => ?_)
    have kp' : KpH hb h' := fun b o e => hsb.extBut b o (fun q => by rw [q, hli] at e; cases e) (st.kp b o e)
    have hr : RepL h' [.str x] [.str x t] := by simp only [RepL]; exact ⟨_, _, rfl, rep_str, rfl⟩
    refine no_mono (pc_fspath w x A.in1 { s with heap := h' } [.str x t] ⟨hA.1, by have := hA.2.1; show A.depth + 1 ≤ 900; omega, by have := hA.2.2; show A.units + 1 + 10 * 1 ≤ 9000; omega⟩ (X.keeps kp') hr) fun v s2 z => ?_
    obtain ⟨rv, k2⟩ := z
    simp only [Rep] at rv
    obtain ⟨t', rfl⟩ := rv
    obtain ⟨h2', tk2, rfl, kk⟩ := k2
    intro htk
    refine hQ _ _ ⟨x, t, t', hx', rfl⟩ ⟨fun b o e => kk _ _ (kp' b o e), kk _ _ (hsb.extBut _ _ h1 st.mp), kk _ _ (hsb.extBut _ _ h2 st.tu), ?_, (st.ls.extBut hsb.extBut h3).at fun o e => kk _ o e⟩ ⟨fun b o hb e => kk _ _ (hsb.extBut _ _ (by simpa using hb) e), rfl, rfl, rfl, htk⟩
    obtain ⟨o, ho, r⟩ := hit
    exact ⟨o, kk _ _ ho, r⟩
  done := by
    intro s Q E st hQ
    refine wpAny_with_toks (Nat.le_refl s.toks) (map_end hA.1 st.mp st.tu st.it st.ls (by simp) fun h' hx htk => hQ _ ⟨fun b o hb e => hx _ _ (by simpa using hb) e, rfl, rfl, rfl, htk⟩)
  self := by
    intro i s Q E st hQ
    have hT : s.TypeIs (.ref I) "map" := ⟨_, st.mp, rfl⟩
    refine wpAny_pyIter_slot hT slot_map_iter (wpAny_call_entry slot_map_iter hT entry_map_iter ?_ (args_map_iter _))
    show wpAny _ _ (ret (.ref I)) _ _ s
    exact wpAny_pure ⟨_, rfl, "map", _, hT, slot_map_next.lookup, hQ⟩
theorem map_no_len : typeLookup (.type "map") "__len__" = pure Option.none := by rw [typeLookup_type, builtinLookup_eq_fast]; kernel_rfl
theorem map_no_hint : typeLookup (.type "map") "__length_hint__" = pure Option.none := by rw [typeLookup_type, builtinLookup_eq_fast]; kernel_rfl
section
variable {prog : Program} {I : Addr} {fp wr : List Addr} {G : Array GenState → Array GenState → Prop} {n : Nat} {P : Nat → Value → Prop} {St : Nat → Shared → Prop}
theorem collect_map {Q : List Value → Shared → Prop} (W : WalksS prog w A.in1 I fp wr G n P St) (hT : ∀ i s, St i s → s.TypeIs (.ref I) "map") (hst : St 0 s) (hfp : ∀ b ∈ fp, b < s.heap.objs.size) (hI : I ∈ fp)
    (hQ : ∀ s' acc, Moved wr G s s' → ItemsOf P acc n → Q acc.toList s') (hn : n ≤ sizeLine := by size_fits) : wpAny (model prog w) A (collect (.ref I)) Q E s := by
  have hSf : s.heap.objs.size ∉ fp := fun hm => Nat.lt_irrefl _ (hfp _ hm)
  have hSI : s.heap.objs.size ≠ I := fun e => hSf (e ▸ hI)
  unfold collect
  refine wpAny_bind (wpAny_runValue (codeAny_builtin F.entry_proto_collect ?_))
  rw [Around.under_plainId F.plain_proto_collect _]
  show wpAny _ A.in1 (newList [] >>= fun l => again (.builtin "list.__iadd__" ⟨[l, .ref I], []⟩)) _ _ s
  refine wpAny_bind (wpAny_newObj_type ?_)
  refine wpAny_pure ⟨plainId_quiet F.plain_list_iadd _, codeAny_builtin F.entry_list_iadd ?_⟩
  rw [Around.under_plainId F.plain_list_iadd _]
  have hst₁ := W.frame 0 s (s.heap.push { cls := .type "list", data := .seq ([] : List Value).toArray }) s.toks hst (Nat.le_refl _) fun b _ o e => Heap.get?_push_of_some _ e
  show wpAny _ A.in1 (Builtin.List.listExtendWith (.ref s.heap.objs.size) (.ref I) (.ref s.heap.objs.size)) _ _ _
  unfold Builtin.List.listExtendWith
  refine wpAny_bind (wpAny_typeOf (hT 0 _ hst₁) ?_)
  have h1 : Builtin.List.listSameRef (.ref s.heap.objs.size) (.ref I) = false := by simp [Builtin.List.listSameRef, hSI]
  have h2 : (Value.type "map" == Value.type "list") = false := by decide
  have h3 : (Value.type "map" == Value.type "tuple") = false := by decide
  simp only [h1, h2, h3, Bool.or_false, Bool.false_eq_true, if_false]
  refine wpAny_bind (W.self 0 _ _ _ hst₁ ?_)
  refine wpAny_bind (wpAny_holding ?_)
  unfold Builtin.List.listLengthHint
  refine wpAny_bind (wpAny_specialOf (hT 0 _ hst₁) map_no_len ?_)
  show wpAny _ A.in1 (specialOf (Value.ref I) (Str.ofString "__length_hint__") >>= _) _ _ _
  refine wpAny_bind (wpAny_specialOf (hT 0 _ hst₁) map_no_hint ?_)
  refine wpAny_pure ?_
  show wpAny _ A.in1 (rule "list.extend.makes-room" >>= fun _ => Builtin.List.listTouch (.ref s.heap.objs.size) >>= fun _ =>
    again (.builtin "list.extend.loop" ⟨[.ref s.heap.objs.size, .ref I, .ref s.heap.objs.size], []⟩)) _ _ _
  refine wpAny_bind (wpAny_rule ?_)
  have hS₁ : (s.heap.push { cls := .type "list", data := .seq ([] : List Value).toArray }).get? s.heap.objs.size = some { cls := .type "list", data := .seq ([] : List Value).toArray } := Heap.get?_push_size _ rfl
  refine wpAny_bind ?_
  show wpAny _ A.in1 (updateSeq s.heap.objs.size (·.push .none) >>= fun _ => updateSeq s.heap.objs.size (·.pop)) _ _ _
  refine wpAny_bind (wpAny_updateSeq hS₁ rfl ?_)
  have hS₂ := Heap.get?_update_self (Obj.mapSeq (·.push Value.none)) hS₁ rfl
  refine wpAny_updateSeq hS₂ rfl ?_
  have hS₃ := Heap.get?_update_self (Obj.mapSeq (·.pop)) hS₂ rfl
  have oth : ∀ b o, b ≠ s.heap.objs.size → (s.heap.push { cls := .type "list", data := .seq ([] : List Value).toArray }).get? b = some o →
      (((s.heap.push { cls := .type "list", data := .seq ([] : List Value).toArray }).update s.heap.objs.size (Obj.mapSeq (·.push Value.none))).update s.heap.objs.size (Obj.mapSeq (·.pop))).get? b = some o :=
    fun b o hb e => (Heap.get?_update_other _ _ (Ne.symm hb)).trans ((Heap.get?_update_other _ _ (Ne.symm hb)).trans e)
  refine wpAny_pure ⟨plainId_quiet F.plain_extend_loop _, codeAny_extend_loopS W hn _ hSf _ n 0 _ _ _ rfl (Nat.zero_le _)
    (W.frame 0 ({ s with heap := s.heap.push { cls := .type "list", data := .seq ([] : List Value).toArray } } : Shared) _ s.toks hst₁ (Nat.le_refl _) fun b hb o e => oth b o (fun h => hSf (h ▸ hb)) e) hS₃ (ItemsOf.nil P) fun s' acc' c' hm hS' hacc => ?_⟩
  show wpAny _ A (load s.heap.objs.size >>= _) _ _ s'
  refine wpAny_bind (wpAny_load hS' ?_)
  refine wpAny_pure (hQ s' acc' (Moved.drop_new (o := { cls := .type "list", data := .seq ([] : List Value).toArray }) (tk := s.toks) (Moved.trans W.gtrans ((Moved.refl W.grefl).then_heap (by first | exact Nat.le_refl _ | exact Nat.le_succ _ | omega) fun b o hb e => ?_) hm) (Nat.le_refl _)) hacc)
  exact oth b o (by simp at hb; first | exact hb | exact hb.1 | exact hb.2 | (intro h; exact hb (h ▸ List.mem_cons_self))) e
theorem code_tuple_map {Q₁ : Value → Shared → Prop} (W : WalksS prog w A.in1.in1 I fp wr G n P St) (hT : ∀ i s, St i s → s.TypeIs (.ref I) "map") (hst : St 0 s) (hfp : ∀ b ∈ fp, b < s.heap.objs.size) (hI : I ∈ fp)
    (h : ∀ s' acc, Moved wr G s s' → ItemsOf P acc n → Q₁ (.ref s'.heap.objs.size) { s' with heap := s'.heap.push { cls := .type "tuple", data := .seq acc } }) (hsz : n ≤ sizeLine := by size_fits) :
    codeAny (model prog w) A (.call (.builtin "tuple.__new__") ⟨[.type "tuple", .ref I], []⟩) (wants Q₁ E) s := by
  refine codeAny_of_tree ?_
  show wpAny _ A.in1 (do checkBuiltinCall "tuple.__new__" ⟨[.type "tuple", .ref I], []⟩; again (.builtin "tuple.__new__" ⟨[.type "tuple", .ref I], []⟩)) _ _ s
  refine wpAny_bind (wpAny_of_eq (F.newCall_tuple_1 _) (wpAny_pure ⟨plainId_quiet F.plain_tuple_new _, codeAny_builtin F.entry_tuple_new ?_⟩))
  rw [Around.under_plainId F.plain_tuple_new _]
  have hsub := sub_tuple_self
  have hinit := init_tuple_lookup
  have hmh := madeHere_tuple
  have hTI := hT 0 s hst
  wp_walk using wpAny_typeOf hTI, collect_map (hn := hsz) W hT hst hfp hI
  intro s' acc hm hacc
  show wpAny _ _ (Builtin.Tuple.tupleExact acc.toList.toArray >>= fun v => ret v) _ _ _
  unfold Builtin.Tuple.tupleExact
  refine wpAny_bind (wpAny_newObj_type ?_ (by show acc.toList.toArray.size ≤ sizeLine; simp only [Array.toArray_toList]; rw [hacc.1]; exact hsz))
  refine wpAny_pure ?_
  have e : acc.toList.toArray = acc := by simp
  rw [e]
  exact h s' acc hm hacc
theorem call_tuple_map {Q : Value → Shared → Prop} (W : WalksS prog w A.in1.in1.in1 I fp wr G n P St) (hT : ∀ i s, St i s → s.TypeIs (.ref I) "map") (hst : St 0 s) (hfp : ∀ b ∈ fp, b < s.heap.objs.size) (hI : I ∈ fp)
    (hQ : ∀ s' acc, Moved wr G s s' → ItemsOf P acc n → Q (.ref s'.heap.objs.size) { s' with heap := s'.heap.push { cls := .type "tuple", data := .seq acc } }) (hsz : n ≤ sizeLine := by size_fits) :
    wpAny (model prog w) A (call (.type "tuple") [.ref I]) Q E s := by
  refine callType_codes (Q₁ := fun obj s₁ => s₁.TypeIs obj "tuple" ∧ Q obj s₁) F.called_tuple (F.typeCall_tuple_1 _) F.entry_object_init
    (code_tuple_map (hsz := hsz) W hT hst hfp hI fun s' acc hm hacc => ⟨⟨_, Heap.get?_push_size _ rfl, rfl⟩, hQ s' acc hm hacc⟩) fun obj s₁ h₁ => ?_
  exact ⟨h₁.1, F.args_object_init_2 obj _, object_init_meets F.called_tuple.init.lookup F.called_tuple.made (by decide) prog w A.in1 _ s₁ ⟨h₁.1, rfl, h₁.2⟩⟩
end
end
theorem repL_strsG {h : Heap} : ∀ (l : List Str) {vs : List Value}, vs.length = l.length → (∀ (j : Nat) (v : Value), vs[j]? = some v → ∃ x t, l[j]? = some x ∧ v = Value.str x t) → RepL h (l.map .str) vs
  | [], [], _, _ => by simp only [List.map_nil, RepL]
  | [], v :: vs, e, _ => by simp at e
  | x :: l, [], e, _ => by simp at e
  | x :: l, v :: vs, e, h => by
    obtain ⟨y, t, e1, rfl⟩ := h 0 v rfl
    simp at e1; subst e1
    simp only [List.map_cons, RepL]
    exact ⟨_, vs, rfl, rep_str, repL_strsG l (by simpa using e) fun j u eu => by simpa using h (j + 1) u (by simpa using eu)⟩
section
variable {w : World} {A : Around} {env : Env} {I : Inv}
theorem EV.tupmap {xt xm : Str} {pt pm p q : Pos} {ef e : Expr} {l : List Str} (hA : Lv 6 A) (hI : I.Has w) (ht : EV w A env I (.Name xt pt) (.val (.type "tuple"))) (hm : EV w A env I (.Name xm pm) (.val (.type "map"))) (hf : EV w A env I ef (.val (.ref 141))) (he : EV w A env I e (.list (l.map .str)))
    (hsz : l.length ≤ sizeLine)
    (h1 : eval (.Call (.Name xm pm) [ef, e] [] q) env = (do callWith q (← eval (.Name xm pm) env) [] (backTo q (starEach [ef, e] env)) (backToKw q (keywordEach [] env))) := by rfl)
    (h2 : starEach [ef, e] env = (false, eval ef env) :: starEach [e] env := by rfl) (h3 : starEach [e] env = (false, eval e env) :: starEach [] env := by rfl)
    (h4 : eval (.Call (.Name xt pt) [.Call (.Name xm pm) [ef, e] [] q] [] p) env = (do callWith p (← eval (.Name xt pt) env) [] (backTo p (starEach [.Call (.Name xm pm) [ef, e] [] q] env)) (backToKw p (keywordEach [] env))) := by rfl)
    (h5 : starEach [.Call (.Name xm pm) [ef, e] [] q] env = (false, eval (.Call (.Name xm pm) [ef, e] [] q) env) :: starEach [] env := by rfl) :
    EV w A env I (.Call (.Name xt pt) [.Call (.Name xm pm) [ef, e] [] q] [] p) (.tup (l.map .str)) := fun s F =>
  Call_ (ht.use F fun v s' r k F' => by
    simp only [Rep] at r; subst r
    refine PyProof.Rows.callWith_type1 (args_cons (Call_ (hm.use F' fun v1 s1 r1 k1 F1 => by
      simp only [Rep] at r1; subst r1
      refine PyProof.Rows.callWith_type1 (args_cons (hf.use F1 fun v2 s2 r2 k2 F2 => args_cons (he.use F2 fun v3 s3 r3 k3 F3 => args_nil ?_) h3) h2) h2 (by rw [h3]; rfl)
      simp only [Rep] at r2; subst r2
      simp only [Rep] at r3
      obtain ⟨a, us, rfl, hl, hr⟩ := r3
      refine call_map hl fun h' g1 g2 g3 g4 kk => args_nil ?_
      have hlen : us.size = l.length := by have := repL_len hr; simpa using this
      have hstr : ∀ (i : Nat) (v : Value), us[i]? = some v → ∃ x t, l[i]? = some x ∧ v = Value.str x t := fun i v e => by
        have hi : i < l.length := by rw [← hlen]; exact (Array.getElem?_eq_some_iff.mp e).1
        obtain ⟨v', e', r'⟩ := repL_get hr i (.str l[i]) (by rw [List.getElem?_map, List.getElem?_eq_getElem hi]; rfl)
        rw [Array.getElem?_toList, e] at e'; cases e'
        simp only [Rep] at r'
        obtain ⟨t, rfl⟩ := r'
        exact ⟨_, t, List.getElem?_eq_getElem hi, rfl⟩
      have hal : a < s3.heap.objs.size := by obtain ⟨o, e, _⟩ := hl; exact Heap.lt_size e
      have hnn : ∀ n : Nat, n + 2 ≠ n ∧ n + 1 ≠ n ∧ n + 2 < n + 3 ∧ n + 1 < n + 3 ∧ n < n + 3 := fun n => by omega
      have hno : s3.heap.get? s3.heap.objs.size = Option.none := by
        cases q : s3.heap.get? s3.heap.objs.size with
        | none => rfl
        | some o => exact absurd (Heap.lt_size q) (Nat.lt_irrefl _)
      refine call_tuple_map (walks_map (l := a) (items := us) (T := s3.heap.objs.size + 1) (N := s3.heap.objs.size + 3) (hb := s3.heap) (hA.in1.in1.in1) (hI.x _ F3) hno (hnn _).1 (hnn _).2.1 (Nat.ne_of_lt hal) (Nat.le_add_right _ _) (hnn _).2.2.1 (hnn _).2.2.2.1 (Nat.lt_of_lt_of_le hal (Nat.le_add_right _ _)) (hnn _).2.2.2.2 (fun i v e => by obtain ⟨x, t, _, e⟩ := hstr i v e; exact ⟨x, t, e⟩)) (fun i s st => ⟨_, st.mp, rfl⟩) ⟨kk, g3, g2, g1, hl.at fun o e => kk _ o e⟩ (fun b hb => by show b < h'.objs.size; rw [g4]; exact List.mem_range.mp hb) (List.mem_range.mpr (hnn _).2.2.1) (fun s' acc hm hacc => ⟨?_, ?_⟩) (by rw [hlen]; exact hsz)
      · simp only [Rep]
        refine ⟨_, acc, rfl, ⟨0, Heap.get?_push_size _ rfl⟩, ?_⟩
        refine repL_strsG l (by rw [Array.length_toList, hacc.1, hlen]) fun j v e => ?_
        obtain ⟨x, t, t', e1, e2⟩ := hacc.2 j v (by rw [← Array.getElem?_toList]; exact e)
        obtain ⟨y, u, e3, e4⟩ := hstr j _ e1
        cases e4
        exact ⟨x, t', e3, e2⟩
      · refine kp_trans k (kp_trans k1 (kp_trans k2 (kp_trans k3 ?_)))
        obtain ⟨hp, gs, dr, tk, os⟩ := s'
        obtain ⟨m1, m2, m3, m4, m5⟩ := hm
        dsimp only at m1 m2 m3 m4
        subst m2 m3 m4
        exact ⟨_, tk, rfl, fun b o e => Heap.get?_push_of_some _ (m1 b o (by intro hb; simp only [List.mem_singleton] at hb; subst hb; rw [hno] at e; cases e) (kk _ _ e))⟩) h1) h5) h5 rfl) h4
end
end
section
open Sem (wp)
open AutoSeq1 (wpAny_loadPart')
open MeetsSeq MeetsSeq2 MeetsSeq3
noncomputable def ltS (x y : Str) : Bool := decide (x.cps.toList < y.cps.toList)
noncomputable def ltN (m n : Nat) : Bool := decide (m < n)
noncomputable def gtS (x y : Str) : Bool := decide (y.cps.toList < x.cps.toList)
noncomputable def gtN (m n : Nat) : Bool := decide (m > n)
noncomputable def lexB (f : Str → Str → Bool) (g : Nat → Nat → Bool) : List Str → List Str → Bool
  | x :: xs, y :: ys => if x.cps.toList == y.cps.toList then lexB f g xs ys else f x y
  | xs, ys => g xs.length ys.length
theorem lexB_nil {f : Str → Str → Bool} {g : Nat → Nat → Bool} {ys : List Str} : lexB f g [] ys = g 0 ys.length := by cases ys <;> rfl
theorem lexB_nil2 {f : Str → Str → Bool} {g : Nat → Nat → Bool} {xs : List Str} : lexB f g xs [] = g xs.length 0 := by cases xs <;> rfl
noncomputable def AreS (items : Array Value) (xs : List Str) : Prop := items.size = xs.length ∧ ∀ (j : Nat) (v : Value), items[j]? = some v → ∃ x t, xs[j]? = some x ∧ v = Value.str x t
section
variable {prog : Program} {w : World} {A : Around} {E : Value → Shared → Prop} {s : Shared}
theorem rc_str_Lt (x y : Str) (t u : Tok) {Q : Value → Shared → Prop} (h : Q (.bool (ltS x y)) s) : wpAny (model prog w) A (richCompare .Lt (.str x t) (.str y u)) Q E s :=
  richCompare_gives (op := .Lt) (typeIs_str s x t) (typeIs_str s y u) F.slot_str_lt F.entry_str_lt (F.args_str_lt_2 _ _) (gives_str_lt x y t u) (fun e => nomatch e) h
theorem rc_str_Gt (x y : Str) (t u : Tok) {Q : Value → Shared → Prop} (h : Q (.bool (gtS x y)) s) : wpAny (model prog w) A (richCompare .Gt (.str x t) (.str y u)) Q E s :=
  richCompare_gives (op := .Gt) (typeIs_str s x t) (typeIs_str s y u) F.slot_str_gt F.entry_str_gt (F.args_str_gt_2 _ _) (gives_str_gt x y t u) (fun e => nomatch e) h
end

theorem lt_loop (l b : Addr) (items items2 : Array Value) (n n2 : Nat) (dd dd2 : Option Addr) (sl sl2 : Array (Option Value)) (xs ys : List Str) (hx : AreS items xs) (hy : AreS items2 ys) (k : Nat) :
    ∀ i : Nat, items.size - i = k → i ≤ items.size → i ≤ items2.size → Meets (Builtin.«list.__eq__.loop» ⟨[.ref l, .ref b, rawInt i, rawInt 0], []⟩)
      (fun _ R s => s.heap.get? l = some { cls := .type "list", dict := dd, data := .seq items n, slots := sl } ∧ s.heap.get? b = some { cls := .type "list", dict := dd2, data := .seq items2 n2, slots := sl2 } ∧
        R (.ok (.ret (.bool (lexB ltS ltN (xs.drop i) (ys.drop i))))) s) := by
  induction k with
  | zero =>
    intro i hk h1 h2 prog w A R s h
    obtain ⟨hp, g, d, tk, os⟩ := s; obtain ⟨hl, hb, h⟩ := h
    wp_walk using wpAny_loadPart' hl, wpAny_loadPart' hb
    have hi1 : items[((i : Nat) : Int).toNat]? = Option.none := by simp; omega
    have hd : xs.drop i = [] := by have := hx.1; simp; omega
    rw [hd, lexB_nil, List.length_drop] at h
    rw [hi1]
    wp_walk using wpAny_loadPart' hl, wpAny_loadPart' hb
    show R (.ok (.ret (.bool (ltN items.size items2.size)))) _
    rw [show ltN items.size items2.size = ltN 0 (ys.length - i) by unfold ltN; have := hy.1; simp; omega]
    exact h
  | succ k ih =>
    intro i hk h1 h2 prog w A R s h
    obtain ⟨hp, g, d, tk, os⟩ := s; obtain ⟨hl, hb, h⟩ := h
    have hlt : i < items.size := by omega
    have hi1 : items[((i : Nat) : Int).toNat]? = some items[i] := by simp [hlt]
    obtain ⟨x, t, hx1, hx2⟩ := hx.2 i items[i] (by simp [hlt])
    have hxl : i < xs.length := by rw [← hx.1]; exact hlt
    have hxd : xs.drop i = x :: xs.drop (i + 1) := by
      rw [List.drop_eq_getElem_cons hxl, (List.getElem?_eq_some_iff.mp hx1).2]
    rw [hx2] at hi1
    by_cases hlt2 : i < items2.size
    · wp_walk using wpAny_loadPart' hl, wpAny_loadPart' hb
      have hi2 : items2[((i : Nat) : Int).toNat]? = some items2[i] := by simp [hlt2]
      obtain ⟨y, u, hy1, hy2⟩ := hy.2 i items2[i] (by simp [hlt2])
      have hyl : i < ys.length := by rw [← hy.1]; exact hlt2
      have hyd : ys.drop i = y :: ys.drop (i + 1) := by
        rw [List.drop_eq_getElem_cons hyl, (List.getElem?_eq_some_iff.mp hy1).2]
      rw [hy2] at hi2
      rw [hxd, hyd, lexB] at h
      have hc : ((i : Int) + 1) = ((i + 1 : Nat) : Int) := by push_cast; rfl
      rw [hi1, hi2]
      refine wpAny_bind (SeqRoads2.EqGives.str x y t u prog w _ _ _ _ ?_)
      cases hb' : x.cps.toList == y.cps.toList with
      | true =>
        rw [hb', if_pos rfl] at h
        wp_walk
        rw [hc]
        exact ⟨plainId_quiet plain_eq_loop _, codeAny_builtin entry_eq_loop (by
          rw [Around.under_plainId plain_eq_loop _]
          exact ih (i + 1) (by omega) hlt hlt2 prog w A R _ ⟨hl, hb, h⟩)⟩
      | false =>
        rw [hb', if_neg (by decide)] at h
        wp_walk using wpAny_loadPart' hl, wpAny_loadPart' hb
        rw [hi1, hi2]
        refine wpAny_bind (rc_str_Lt x y t u ?_)
        exact wpAny_pure h
    · wp_walk using wpAny_loadPart' hl, wpAny_loadPart' hb
      have hi2 : items2[((i : Nat) : Int).toNat]? = Option.none := by simp; omega
      have hd : ys.drop i = [] := by have := hy.1; simp; omega
      rw [hd, lexB_nil2, List.length_drop] at h
      rw [hi1, hi2]
      wp_walk using wpAny_loadPart' hl, wpAny_loadPart' hb
      show R (.ok (.ret (.bool (ltN items.size items2.size)))) _
      rw [show ltN items.size items2.size = ltN (xs.length - i) 0 by unfold ltN; have := hy.1; have := hx.1; simp; omega]
      exact h
theorem list_lt (l b : Addr) (items items2 : Array Value) (n n2 : Nat) (dd dd2 : Option Addr) (sl sl2 : Array (Option Value)) (xs ys : List Str) (hx : AreS items xs) (hy : AreS items2 ys) :
    Meets (Builtin.«list.__lt__» ⟨[.ref l, .ref b], []⟩)
      (fun _ R s => s.heap.get? l = some { cls := .type "list", dict := dd, data := .seq items n, slots := sl } ∧ s.heap.get? b = some { cls := .type "list", dict := dd2, data := .seq items2 n2, slots := sl2 } ∧
        R (.ok (.ret (.bool (lexB ltS ltN xs ys)))) s) := by
  intro prog w A R s h
  obtain ⟨hp, g, d, tk, os⟩ := s; obtain ⟨hl, hb, h⟩ := h
  have f3 := AutoSeq1.sub_list_list
  wp_walk using wpAny_loadPart' hl, wpAny_loadPart' hb
  exact ⟨plainId_quiet plain_eq_loop _, codeAny_builtin entry_eq_loop (by
    rw [Around.under_plainId plain_eq_loop _]
    exact lt_loop l b items items2 n n2 dd dd2 sl sl2 xs ys hx hy _ 0 rfl (Nat.zero_le _) (Nat.zero_le _) prog w A R _ ⟨hl, hb, h⟩)⟩
theorem rc_lists_lt {prog : Program} {w : World} {A : Around} {E : Value → Shared → Prop} {s : Shared} {l b : Addr} {items items2 : Array Value} {xs ys : List Str} {Q : Value → Shared → Prop} (hl : s.heap.IsList l items) (hb : s.heap.IsList b items2) (hx : AreS items xs) (hy : AreS items2 ys) (hu : A.units < cLine)
    (h : Q (.bool (lexB ltS ltN xs ys)) s) : wpAny (model prog w) A (richCompare .Lt (.ref l) (.ref b)) Q E s := by
  obtain ⟨⟨cls, dd, data, sl⟩, ho, hc, n, hd⟩ := id hl
  obtain ⟨⟨cls2, dd2, data2, sl2⟩, ho2, hc2, n2, hd2⟩ := id hb
  simp only at hc hd hc2 hd2
  subst hc hd hc2 hd2
  exact richCompare_meets_room (op := .Lt) ⟨_, ho, rfl⟩ ⟨_, ho2, rfl⟩ F.slot_list_lt F.entry_list_lt (F.args_list_lt_2 _ _) (list_lt l b items items2 n n2 dd dd2 sl sl2 xs ys hx hy)
    ⟨ho, ho2, show Value.bool _ ≠ Value.notImplemented ∧ Q (.bool (lexB ltS ltN xs ys)) s from ⟨(fun x => nomatch x), h⟩⟩ hu

theorem gt_loop (l b : Addr) (items items2 : Array Value) (n n2 : Nat) (dd dd2 : Option Addr) (sl sl2 : Array (Option Value)) (xs ys : List Str) (hx : AreS items xs) (hy : AreS items2 ys) (k : Nat) :
    ∀ i : Nat, items.size - i = k → i ≤ items.size → i ≤ items2.size → Meets (Builtin.«list.__eq__.loop» ⟨[.ref l, .ref b, rawInt i, rawInt 4], []⟩)
      (fun _ R s => s.heap.get? l = some { cls := .type "list", dict := dd, data := .seq items n, slots := sl } ∧ s.heap.get? b = some { cls := .type "list", dict := dd2, data := .seq items2 n2, slots := sl2 } ∧
        R (.ok (.ret (.bool (lexB gtS gtN (xs.drop i) (ys.drop i))))) s) := by
  induction k with
  | zero =>
    intro i hk h1 h2 prog w A R s h
    obtain ⟨hp, g, d, tk, os⟩ := s; obtain ⟨hl, hb, h⟩ := h
    wp_walk using wpAny_loadPart' hl, wpAny_loadPart' hb
    have hi1 : items[((i : Nat) : Int).toNat]? = Option.none := by simp; omega
    have hd : xs.drop i = [] := by have := hx.1; simp; omega
    rw [hd, lexB_nil, List.length_drop] at h
    rw [hi1]
    wp_walk using wpAny_loadPart' hl, wpAny_loadPart' hb
    show R (.ok (.ret (.bool (gtN items.size items2.size)))) _
    rw [show gtN items.size items2.size = gtN 0 (ys.length - i) by unfold gtN; have := hy.1; simp; omega]
    exact h
  | succ k ih =>
    intro i hk h1 h2 prog w A R s h
    obtain ⟨hp, g, d, tk, os⟩ := s; obtain ⟨hl, hb, h⟩ := h
    have hlt : i < items.size := by omega
    have hi1 : items[((i : Nat) : Int).toNat]? = some items[i] := by simp [hlt]
    obtain ⟨x, t, hx1, hx2⟩ := hx.2 i items[i] (by simp [hlt])
    have hxl : i < xs.length := by rw [← hx.1]; exact hlt
    have hxd : xs.drop i = x :: xs.drop (i + 1) := by
      rw [List.drop_eq_getElem_cons hxl, (List.getElem?_eq_some_iff.mp hx1).2]
    rw [hx2] at hi1
    by_cases hlt2 : i < items2.size
    · wp_walk using wpAny_loadPart' hl, wpAny_loadPart' hb
      have hi2 : items2[((i : Nat) : Int).toNat]? = some items2[i] := by simp [hlt2]
      obtain ⟨y, u, hy1, hy2⟩ := hy.2 i items2[i] (by simp [hlt2])
      have hyl : i < ys.length := by rw [← hy.1]; exact hlt2
      have hyd : ys.drop i = y :: ys.drop (i + 1) := by
        rw [List.drop_eq_getElem_cons hyl, (List.getElem?_eq_some_iff.mp hy1).2]
      rw [hy2] at hi2
      rw [hxd, hyd, lexB] at h
      have hc : ((i : Int) + 1) = ((i + 1 : Nat) : Int) := by push_cast; rfl
      rw [hi1, hi2]
      refine wpAny_bind (SeqRoads2.EqGives.str x y t u prog w _ _ _ _ ?_)
      cases hb' : x.cps.toList == y.cps.toList with
      | true =>
        rw [hb', if_pos rfl] at h
        wp_walk
        rw [hc]
        exact ⟨plainId_quiet plain_eq_loop _, codeAny_builtin entry_eq_loop (by
          rw [Around.under_plainId plain_eq_loop _]
          exact ih (i + 1) (by omega) hlt hlt2 prog w A R _ ⟨hl, hb, h⟩)⟩
      | false =>
        rw [hb', if_neg (by decide)] at h
        wp_walk using wpAny_loadPart' hl, wpAny_loadPart' hb
        rw [hi1, hi2]
        refine wpAny_bind (rc_str_Gt x y t u ?_)
        exact wpAny_pure h
    · wp_walk using wpAny_loadPart' hl, wpAny_loadPart' hb
      have hi2 : items2[((i : Nat) : Int).toNat]? = Option.none := by simp; omega
      have hd : ys.drop i = [] := by have := hy.1; simp; omega
      rw [hd, lexB_nil2, List.length_drop] at h
      rw [hi1, hi2]
      wp_walk using wpAny_loadPart' hl, wpAny_loadPart' hb
      show R (.ok (.ret (.bool (gtN items.size items2.size)))) _
      rw [show gtN items.size items2.size = gtN (xs.length - i) 0 by unfold gtN; have := hy.1; have := hx.1; simp; omega]
      exact h
theorem list_gt (l b : Addr) (items items2 : Array Value) (n n2 : Nat) (dd dd2 : Option Addr) (sl sl2 : Array (Option Value)) (xs ys : List Str) (hx : AreS items xs) (hy : AreS items2 ys) :
    Meets (Builtin.«list.__gt__» ⟨[.ref l, .ref b], []⟩)
      (fun _ R s => s.heap.get? l = some { cls := .type "list", dict := dd, data := .seq items n, slots := sl } ∧ s.heap.get? b = some { cls := .type "list", dict := dd2, data := .seq items2 n2, slots := sl2 } ∧
        R (.ok (.ret (.bool (lexB gtS gtN xs ys)))) s) := by
  intro prog w A R s h
  obtain ⟨hp, g, d, tk, os⟩ := s; obtain ⟨hl, hb, h⟩ := h
  have f3 := AutoSeq1.sub_list_list
  wp_walk using wpAny_loadPart' hl, wpAny_loadPart' hb
  exact ⟨plainId_quiet plain_eq_loop _, codeAny_builtin entry_eq_loop (by
    rw [Around.under_plainId plain_eq_loop _]
    exact gt_loop l b items items2 n n2 dd dd2 sl sl2 xs ys hx hy _ 0 rfl (Nat.zero_le _) (Nat.zero_le _) prog w A R _ ⟨hl, hb, h⟩)⟩
theorem rc_lists_gt {prog : Program} {w : World} {A : Around} {E : Value → Shared → Prop} {s : Shared} {l b : Addr} {items items2 : Array Value} {xs ys : List Str} {Q : Value → Shared → Prop} (hl : s.heap.IsList l items) (hb : s.heap.IsList b items2) (hx : AreS items xs) (hy : AreS items2 ys) (hu : A.units < cLine)
    (h : Q (.bool (lexB gtS gtN xs ys)) s) : wpAny (model prog w) A (richCompare .Gt (.ref l) (.ref b)) Q E s := by
  obtain ⟨⟨cls, dd, data, sl⟩, ho, hc, n, hd⟩ := id hl
  obtain ⟨⟨cls2, dd2, data2, sl2⟩, ho2, hc2, n2, hd2⟩ := id hb
  simp only at hc hd hc2 hd2
  subst hc hd hc2 hd2
  exact richCompare_meets_room (op := .Gt) ⟨_, ho, rfl⟩ ⟨_, ho2, rfl⟩ F.slot_list_gt F.entry_list_gt (F.args_list_gt_2 _ _) (list_gt l b items items2 n n2 dd dd2 sl sl2 xs ys hx hy)
    ⟨ho, ho2, show Value.bool _ ≠ Value.notImplemented ∧ Q (.bool (lexB gtS gtN xs ys)) s from ⟨(fun x => nomatch x), h⟩⟩ hu
end
section
open Sem (wp)
noncomputable def CmpH (prog : Program) (w : World) (A : Around) (hb : Heap) (wr : List Addr) (op : CmpOp) (P : Nat → Value → Prop) (bt : Nat → Nat → Bool) : Prop :=
  ∀ i j vi vj (s : Shared) (Q : Value → Shared → Prop) (E : Value → Shared → Prop), (∀ b o, b ∉ wr → hb.get? b = some o → s.heap.get? b = some o) → P i vi → P j vj → Q (.bool (bt i j)) s → wpAny (model prog w) A (richCompare op vi vj) Q E s

section
variable {prog : Program} {w : World} {A : Around} {R : Result → Shared → Prop} {I : Addr} {fp wr : List Addr} {n : Nat} {P : Nat → Value → Prop} {St : Nat → Heap → Prop}
theorem min_loopH (W : Walks prog w A.in1 I fp wr n P St) (bt : Nat → Nat → Bool) (hb : Heap) (hcmp : CmpH prog w A.in1 hb wr .Lt P bt) (S : Addr) (hSf : S ∉ fp) (hS0 : hb.get? S = Option.none) :
    ∀ (k j : Nat) (s : Shared) (vb : Value) (c : Nat), n - (j + 1) = k → j + 1 ≤ n → St (j + 1) s.heap → P (argBest bt j) vb →
    s.heap.get? S = some { cls := .type "list", dict := none, data := .seq #[vb, vb] c, slots := #[] } → (∀ b o, b ∉ wr → hb.get? b = some o → s.heap.get? b = some o) →
    (∀ v h' tk, P (argBest bt (n - 1)) v → (∀ b o, b ∉ wr → b ≠ S → s.heap.get? b = some o → h'.get? b = some o) → R (.ok (.ret v)) { s with heap := h', toks := tk }) →
    codeAny (model prog w) A (.builtin "min.loop" ⟨[.ref I, .none, .ref S], []⟩) R s := by
  have hSw : S ∉ wr := fun h => hSf (W.sub _ h)
  have hname : (toString "min" ++ toString ".loop" : String) = "min.loop" := by decide
  have hne : ∀ b o, hb.get? b = some o → b ≠ S := fun b o e q => by rw [q, hS0] at e; cases e
  intro k
  induction k with
  | zero =>
    intro j s vb c hk hj hst hPb hS hkp hR
    have hin : j + 1 = n := by omega
    refine codeAny_builtin F.entry_min_loop ?_
    rw [Around.under_plainId F.plain_min_loop _]
    show wpAny _ A.in1 (seqItems? (.ref S) >>= _) _ _ s
    refine wpAny_bind (wpAny_seqItems hS rfl ?_)
    show wpAny _ A.in1 (tryCatch (pyNext (.ref I)) _ >>= _) _ _ s
    refine wpAny_bind (wpAny_tryCatch (W.done s _ _ (hin ▸ hst) fun h' tk hk' => ?_))
    have hS' := hk' S _ hSw hS
    show wpAny _ A.in1 (updateSeq S (fun _ => #[]) >>= _) _ _ _
    refine wpAny_bind ?_
    refine wpAny_updateSeq hS' rfl (wpAny_bind (wpAny_letGo (wpAny_pure ?_)))
    refine hR vb _ tk (by rw [← hin]; exact hPb) fun b o hbw hbS e => (Heap.get?_update_other _ _ (Ne.symm hbS)).trans (hk' b o hbw e)
  | succ k ih =>
    intro j s vb c hk hj hst hPb hS hkp hR
    have hlt : j + 1 < n := by omega
    refine codeAny_builtin F.entry_min_loop ?_
    rw [Around.under_plainId F.plain_min_loop _]
    show wpAny _ A.in1 (seqItems? (.ref S) >>= _) _ _ s
    refine wpAny_bind (wpAny_seqItems hS rfl ?_)
    show wpAny _ A.in1 (tryCatch (pyNext (.ref I)) _ >>= _) _ _ s
    refine wpAny_bind (wpAny_tryCatch (W.item (j + 1) s _ _ hlt hst fun v h' tk hP hst' hk' => ?_))
    have hS' := hk' S _ hSw hS
    have hkp' : ∀ b o, b ∉ wr → hb.get? b = some o → h'.get? b = some o := fun b o hbw e => hk' b o hbw (hkp b o hbw e)
    show wpAny _ A.in1 (tryCatch (holding [v, v] (richCompare .Lt v vb >>= _)) _ >>= _) _ _ _
    refine wpAny_bind (wpAny_tryCatch (wpAny_holding (wpAny_bind (hcmp (j + 1) (argBest bt j) v vb _ _ _ hkp' hP hPb ?_))))
    refine wpAny_bind (wpAny_holding (wpAny_truthy_bool ?_))
    refine wpAny_bind (wpAny_letGo (wpAny_pure ?_))
    cases hbt : bt (j + 1) (argBest bt j) with
    | true =>
      simp only [if_true]
      refine wpAny_bind ?_
      refine wpAny_updateSeq hS' rfl (wpAny_bind (wpAny_letGo ?_))
      rw [hname]
      refine wpAny_pure ⟨plainId_quiet F.plain_min_loop _, ih (j + 1) _ v _ (by omega) hlt (W.frame _ _ _ hst' fun b hbf o e => ?_) (by simp only [argBest, hbt, if_true]; exact hP) (Heap.get?_update_self _ hS' rfl)
        (fun b o hbw e => (Heap.get?_update_other _ _ (Ne.symm (hne b o e))).trans (hkp' b o hbw e)) fun v' h'' tk'' hP' hk'' => ?_⟩
      · exact (Heap.get?_update_other _ _ (fun h : S = b => hSf (by rw [h]; exact hbf))).trans e
      · exact hR v' h'' tk'' hP' fun b o hbw hbS e => hk'' b o hbw hbS ((Heap.get?_update_other _ _ (Ne.symm hbS)).trans (hk' b o hbw e))
    | false =>
      simp only [Bool.false_eq_true, if_false]
      refine wpAny_bind (wpAny_letGo ?_)
      rw [hname]
      refine wpAny_pure ⟨plainId_quiet F.plain_min_loop _, ih (j + 1) _ vb c (by omega) hlt hst' (by simp only [argBest, hbt, Bool.false_eq_true, if_false]; exact hPb) hS' hkp' fun v' h'' tk'' hP' hk'' => ?_⟩
      exact hR v' h'' tk'' hP' fun b o hbw hbS e => hk'' b o hbw hbS (hk' b o hbw e)
theorem min_firstH (W : Walks prog w A.in1 I fp wr n P St) (bt : Nat → Nat → Bool) (hb : Heap) (hcmp : CmpH prog w A.in1 hb wr .Lt P bt) (S : Addr) (hSf : S ∉ fp) (hS0 : hb.get? S = Option.none) (hn : 0 < n) {s : Shared} {c : Nat} (hst : St 0 s.heap)
    (hS : s.heap.get? S = some { cls := .type "list", dict := none, data := .seq #[] c, slots := #[] }) (hkp : ∀ b o, b ∉ wr → hb.get? b = some o → s.heap.get? b = some o)
    (hR : ∀ v h' tk, P (argBest bt (n - 1)) v → (∀ b o, b ∉ wr → b ≠ S → s.heap.get? b = some o → h'.get? b = some o) → R (.ok (.ret v)) { s with heap := h', toks := tk }) :
    codeAny (model prog w) A (.builtin "min.loop" ⟨[.ref I, .none, .ref S], []⟩) R s := by
  have hSw : S ∉ wr := fun h => hSf (W.sub _ h)
  have hname : (toString "min" ++ toString ".loop" : String) = "min.loop" := by decide
  have hne : ∀ b o, hb.get? b = some o → b ≠ S := fun b o e q => by rw [q, hS0] at e; cases e
  refine codeAny_builtin F.entry_min_loop ?_
  rw [Around.under_plainId F.plain_min_loop _]
  show wpAny _ A.in1 (seqItems? (.ref S) >>= _) _ _ s
  refine wpAny_bind (wpAny_seqItems hS rfl ?_)
  show wpAny _ A.in1 (tryCatch (pyNext (.ref I)) _ >>= _) _ _ s
  refine wpAny_bind (wpAny_tryCatch (W.item 0 s _ _ hn hst fun v h' tk hP hst' hk' => ?_))
  have hS' := hk' S _ hSw hS
  show wpAny _ A.in1 (updateSeq S (fun _ => #[v, v]) >>= _) _ _ _
  refine wpAny_bind ?_
  refine wpAny_updateSeq hS' rfl ?_
  rw [hname]
  refine wpAny_pure ⟨plainId_quiet F.plain_min_loop _, min_loopH W bt hb hcmp S hSf hS0 _ 0 _ v _ rfl hn (W.frame _ _ _ hst' fun b hbf o e => ?_) hP (Heap.get?_update_self _ hS' rfl) (fun b o hbw e => (Heap.get?_update_other _ _ (Ne.symm (hne b o e))).trans (hk' b o hbw (hkp b o hbw e))) fun v' h'' tk'' hP' hk'' => ?_⟩
  · exact (Heap.get?_update_other _ _ (fun h : S = b => hSf (by rw [h]; exact hbf))).trans e
  · exact hR v' h'' tk'' hP' fun b o hbw hbS e => hk'' b o hbw hbS ((Heap.get?_update_other _ _ (Ne.symm hbS)).trans (hk' b o hbw e))
end
section
variable {prog : Program} {w : World} {A : Around} {E : Value → Shared → Prop} {s : Shared}
theorem call_min_walkH {x : Value} {Q : Value → Shared → Prop}
    (h : wpAny (model prog w) A.in1 (pyIter x) (fun it s₂ => ∃ I fp wr n P St bt, it = .ref I ∧ Walks prog w A.in1 I fp wr n P St ∧ St 0 s₂.heap ∧ (∀ b ∈ fp, b < s₂.heap.objs.size) ∧ 0 < n ∧ CmpH prog w A.in1 s₂.heap wr .Lt P bt ∧
      ∀ v h' tk, P (argBest bt (n - 1)) v → (∀ b o, b ∉ wr → s₂.heap.get? b = some o → h'.get? b = some o) → Q v { s₂ with heap := h', toks := tk }) E s) :
    wpAny (model prog w) A (call (.builtin "min") [x]) Q E s := by
  have hname : (toString "min" ++ toString ".loop" : String) = "min.loop" := by decide
  refine call_function_tree F.kind_min F.plain_min F.entry_min (F.args_min1 _) ?_
  show wpAny _ A.in1 (Builtin.Builtins.bindParams "min" ["key", "default"] 0 ⟨[], []⟩ >>= _) _ _ s
  refine wpAny_bind (wpAny_of_eq (show Builtin.Builtins.bindParams "min" ["key", "default"] 0 ⟨[], []⟩ = pure [none, none] from rfl) ?_)
  refine wpAny_bind (wpAny_pure ?_)
  refine wpAny_bind (wpAny_mono h (fun it s₂ h₂ => ?_) fun _ _ e => e)
  obtain ⟨I, fp, wr, n, P, St, bt, rfl, W, hst, hfp, hn, hcmp, hQ⟩ := h₂
  refine wpAny_bind (wpAny_newObj_type ?_)
  have hSf : s₂.heap.objs.size ∉ fp := fun hm => Nat.lt_irrefl _ (hfp _ hm)
  have hS0 : s₂.heap.get? s₂.heap.objs.size = Option.none := by
    cases q : s₂.heap.get? s₂.heap.objs.size with
    | none => rfl
    | some o => exact absurd (Heap.lt_size q) (Nat.lt_irrefl _)
  rw [hname]
  refine wpAny_pure ⟨plainId_quiet F.plain_min_loop _, min_firstH W bt s₂.heap hcmp s₂.heap.objs.size hSf hS0 hn (W.frame _ _ _ hst fun b _ o e => Heap.get?_push_of_some _ e) (Heap.get?_push_size _ rfl) (fun b o _ e => Heap.get?_push_of_some _ e) fun v h' tk hP hk => ?_⟩
  exact hQ v h' tk hP fun b o hbw e => hk b o hbw (Nat.ne_of_lt (Heap.lt_size e)) (Heap.get?_push_of_some _ e)
end
section
variable {w : World} {A : Around} {env : Env} {I : Inv}
theorem EV.min_lists {x : Str} {p q : Pos} {e : Expr} {ls : List (List Str)} (hA : Lv 2 A) (hn : EV w A env I (.Name x p) (.val (.builtin "min"))) (he : EV w A env I e (.list (ls.map fun l => .list (l.map .str)))) (hpos : 0 < ls.length)
    (h1 : eval (.Call (.Name x p) [e] [] q) env = (do callWith q (← eval (.Name x p) env) [] (backTo q (starEach [e] env)) (backToKw q (keywordEach [] env))) := by rfl)
    (h2 : starEach [e] env = (false, eval e env) :: starEach [] env := by rfl) (h3 : (backTo q (starEach [] env)).any (·.1) = false := by rfl) :
    EV w A env I (.Call (.Name x p) [e] [] q) (.list (((ls.getD (argBest (fun i j => lexB ltS ltN (ls.getD i []) (ls.getD j [])) (ls.length - 1)) [])).map .str)) := fun s F =>
  Call_ (hn.use F fun v s' r k F' => by
    simp only [Rep] at r; subst r
    refine PyProof.Rows.callWith_builtin1 (args_cons (he.use F' fun v2 s2 r2 k2 F2 => args_nil ?_) h2) h2 h3
    simp only [Rep] at r2
    obtain ⟨a, us, rfl, hl, hr⟩ := r2
    have hal : a < s2.heap.objs.size := by obtain ⟨o, e, _⟩ := hl; exact Heap.lt_size e
    have hlen : us.size = ls.length := by have := repL_len hr; simpa using this
    have hget : ∀ (i : Nat) (v : Value), us[i]? = some v → i < ls.length ∧ ∃ b us2, v = .ref b ∧ s2.heap.IsList b us2 ∧ AreS us2 (ls.getD i []) := fun i v e => by
      have hi : i < ls.length := by rw [← hlen]; exact (Array.getElem?_eq_some_iff.mp e).1
      obtain ⟨v', e', r'⟩ := repL_get hr i (.list (ls[i].map .str)) (by rw [List.getElem?_map, List.getElem?_eq_getElem hi]; rfl)
      rw [Array.getElem?_toList, e] at e'; cases e'
      simp only [Rep] at r'
      obtain ⟨b, us2, rfl, hl2, hr2⟩ := r'
      refine ⟨hi, b, us2, rfl, hl2, ?_⟩
      rw [List.getD_eq_getElem?_getD, List.getElem?_eq_getElem hi]
      refine ⟨by have := repL_len hr2; simpa using this, fun j u eu => ?_⟩
      have hj : j < ls[i].length := by have := repL_len hr2; rw [Array.length_toList, List.length_map] at this; rw [← this]; exact (Array.getElem?_eq_some_iff.mp eu).1
      obtain ⟨u', eu', ru⟩ := repL_get hr2 j (.str ls[i][j]) (by rw [List.getElem?_map, List.getElem?_eq_getElem hj]; rfl)
      rw [Array.getElem?_toList, eu] at eu'; cases eu'
      simp only [Rep] at ru
      obtain ⟨t, rfl⟩ := ru
      exact ⟨_, t, List.getElem?_eq_getElem hj, rfl⟩
    refine call_min_walkH (wpAny_pyIter_list hl ⟨s2.heap.objs.size, _, _, us.size, _, _, fun i j => lexB ltS ltN (ls.getD i []) (ls.getD j []), rfl, Walks.list (A := A.in1) (show A.in1.handled = Option.none from hA.1) s2.heap.objs.size a (Nat.ne_of_lt hal) us, ⟨⟨_, Heap.get?_push_size _ rfl, rfl, rfl⟩, hl.push _⟩, ?_, by rw [hlen]; exact hpos, ?_, ?_⟩)
    · intro b hb
      simp only [List.mem_cons, List.not_mem_nil, or_false] at hb
      show b < (s2.heap.push _).objs.size
      rw [Heap.size_push]
      rcases hb with rfl | rfl
      · exact Nat.lt_succ_self _
      · exact Nat.lt_succ_of_lt hal
    · intro i j vi vj s5 Q5 E5 hk hi hj hq
      obtain ⟨hi', b1, u1, rfl, hl1, ha1⟩ := hget i vi hi
      obtain ⟨hj', b2, u2, rfl, hl2, ha2⟩ := hget j vj hj
      have kk : ∀ b o, s2.heap.get? b = some o → s5.heap.get? b = some o := fun b o e => hk b o (by intro hm; simp only [List.mem_singleton] at hm; subst hm; exact absurd (Heap.lt_size e) (Nat.lt_irrefl _)) (Heap.get?_push_of_some _ e)
      exact rc_lists_lt (hl1.at fun o e => kk _ o e) (hl2.at fun o e => kk _ o e) ha1 ha2 (by have := hA.2.2; show A.units + 1 < 9900; omega) hq
    · intro v h' tk hP hk
      have kk : ∀ b o, s2.heap.get? b = some o → h'.get? b = some o := fun b o e => hk b o (by intro hm; simp only [List.mem_singleton] at hm; subst hm; exact absurd (Heap.lt_size e) (Nat.lt_irrefl _)) (Heap.get?_push_of_some _ e)
      refine ⟨?_, kp_trans k (kp_trans k2 ⟨h', tk, rfl, kk⟩)⟩
      rw [hlen] at hP
      have hi : argBest (fun i j => lexB ltS ltN (ls.getD i []) (ls.getD j [])) (ls.length - 1) < ls.length := by have := (Array.getElem?_eq_some_iff.mp hP).1; rw [hlen] at this; exact this
      obtain ⟨v', e', r'⟩ := repL_get hr _ (.list ((ls[argBest (fun i j => lexB ltS ltN (ls.getD i []) (ls.getD j [])) (ls.length - 1)]).map .str)) (by rw [List.getElem?_map, List.getElem?_eq_getElem hi]; rfl)
      rw [Array.getElem?_toList, hP] at e'; cases e'
      rw [show ls.getD (argBest (fun i j => lexB ltS ltN (ls.getD i []) (ls.getD j [])) (ls.length - 1)) [] = ls[argBest (fun i j => lexB ltS ltN (ls.getD i []) (ls.getD j [])) (ls.length - 1)] by rw [List.getD_eq_getElem?_getD, List.getElem?_eq_getElem hi]; rfl]
      exact r'.keeps kk) h1
end

section
variable {prog : Program} {w : World} {A : Around} {R : Result → Shared → Prop} {I : Addr} {fp wr : List Addr} {n : Nat} {P : Nat → Value → Prop} {St : Nat → Heap → Prop}
theorem max_loopH (W : Walks prog w A.in1 I fp wr n P St) (bt : Nat → Nat → Bool) (hb : Heap) (hcmp : CmpH prog w A.in1 hb wr .Gt P bt) (S : Addr) (hSf : S ∉ fp) (hS0 : hb.get? S = Option.none) :
    ∀ (k j : Nat) (s : Shared) (vb : Value) (c : Nat), n - (j + 1) = k → j + 1 ≤ n → St (j + 1) s.heap → P (argBest bt j) vb →
    s.heap.get? S = some { cls := .type "list", dict := none, data := .seq #[vb, vb] c, slots := #[] } → (∀ b o, b ∉ wr → hb.get? b = some o → s.heap.get? b = some o) →
    (∀ v h' tk, P (argBest bt (n - 1)) v → (∀ b o, b ∉ wr → b ≠ S → s.heap.get? b = some o → h'.get? b = some o) → R (.ok (.ret v)) { s with heap := h', toks := tk }) →
    codeAny (model prog w) A (.builtin "max.loop" ⟨[.ref I, .none, .ref S], []⟩) R s := by
  have hSw : S ∉ wr := fun h => hSf (W.sub _ h)
  have hname : (toString "max" ++ toString ".loop" : String) = "max.loop" := by decide
  have hne : ∀ b o, hb.get? b = some o → b ≠ S := fun b o e q => by rw [q, hS0] at e; cases e
  intro k
  induction k with
  | zero =>
    intro j s vb c hk hj hst hPb hS hkp hR
    have hin : j + 1 = n := by omega
    refine codeAny_builtin F.entry_max_loop ?_
    rw [Around.under_plainId F.plain_max_loop _]
    show wpAny _ A.in1 (seqItems? (.ref S) >>= _) _ _ s
    refine wpAny_bind (wpAny_seqItems hS rfl ?_)
    show wpAny _ A.in1 (tryCatch (pyNext (.ref I)) _ >>= _) _ _ s
    refine wpAny_bind (wpAny_tryCatch (W.done s _ _ (hin ▸ hst) fun h' tk hk' => ?_))
    have hS' := hk' S _ hSw hS
    show wpAny _ A.in1 (updateSeq S (fun _ => #[]) >>= _) _ _ _
    refine wpAny_bind ?_
    refine wpAny_updateSeq hS' rfl (wpAny_bind (wpAny_letGo (wpAny_pure ?_)))
    refine hR vb _ tk (by rw [← hin]; exact hPb) fun b o hbw hbS e => (Heap.get?_update_other _ _ (Ne.symm hbS)).trans (hk' b o hbw e)
  | succ k ih =>
    intro j s vb c hk hj hst hPb hS hkp hR
    have hlt : j + 1 < n := by omega
    refine codeAny_builtin F.entry_max_loop ?_
    rw [Around.under_plainId F.plain_max_loop _]
    show wpAny _ A.in1 (seqItems? (.ref S) >>= _) _ _ s
    refine wpAny_bind (wpAny_seqItems hS rfl ?_)
    show wpAny _ A.in1 (tryCatch (pyNext (.ref I)) _ >>= _) _ _ s
    refine wpAny_bind (wpAny_tryCatch (W.item (j + 1) s _ _ hlt hst fun v h' tk hP hst' hk' => ?_))
    have hS' := hk' S _ hSw hS
    have hkp' : ∀ b o, b ∉ wr → hb.get? b = some o → h'.get? b = some o := fun b o hbw e => hk' b o hbw (hkp b o hbw e)
    show wpAny _ A.in1 (tryCatch (holding [v, v] (richCompare .Gt v vb >>= _)) _ >>= _) _ _ _
    refine wpAny_bind (wpAny_tryCatch (wpAny_holding (wpAny_bind (hcmp (j + 1) (argBest bt j) v vb _ _ _ hkp' hP hPb ?_))))
    refine wpAny_bind (wpAny_holding (wpAny_truthy_bool ?_))
    refine wpAny_bind (wpAny_letGo (wpAny_pure ?_))
    cases hbt : bt (j + 1) (argBest bt j) with
    | true =>
      simp only [if_true]
      refine wpAny_bind ?_
      refine wpAny_updateSeq hS' rfl (wpAny_bind (wpAny_letGo ?_))
      rw [hname]
      refine wpAny_pure ⟨plainId_quiet F.plain_max_loop _, ih (j + 1) _ v _ (by omega) hlt (W.frame _ _ _ hst' fun b hbf o e => ?_) (by simp only [argBest, hbt, if_true]; exact hP) (Heap.get?_update_self _ hS' rfl)
        (fun b o hbw e => (Heap.get?_update_other _ _ (Ne.symm (hne b o e))).trans (hkp' b o hbw e)) fun v' h'' tk'' hP' hk'' => ?_⟩
      · exact (Heap.get?_update_other _ _ (fun h : S = b => hSf (by rw [h]; exact hbf))).trans e
      · exact hR v' h'' tk'' hP' fun b o hbw hbS e => hk'' b o hbw hbS ((Heap.get?_update_other _ _ (Ne.symm hbS)).trans (hk' b o hbw e))
    | false =>
      simp only [Bool.false_eq_true, if_false]
      refine wpAny_bind (wpAny_letGo ?_)
      rw [hname]
      refine wpAny_pure ⟨plainId_quiet F.plain_max_loop _, ih (j + 1) _ vb c (by omega) hlt hst' (by simp only [argBest, hbt, Bool.false_eq_true, if_false]; exact hPb) hS' hkp' fun v' h'' tk'' hP' hk'' => ?_⟩
      exact hR v' h'' tk'' hP' fun b o hbw hbS e => hk'' b o hbw hbS (hk' b o hbw e)
theorem max_firstH (W : Walks prog w A.in1 I fp wr n P St) (bt : Nat → Nat → Bool) (hb : Heap) (hcmp : CmpH prog w A.in1 hb wr .Gt P bt) (S : Addr) (hSf : S ∉ fp) (hS0 : hb.get? S = Option.none) (hn : 0 < n) {s : Shared} {c : Nat} (hst : St 0 s.heap)
    (hS : s.heap.get? S = some { cls := .type "list", dict := none, data := .seq #[] c, slots := #[] }) (hkp : ∀ b o, b ∉ wr → hb.get? b = some o → s.heap.get? b = some o)
    (hR : ∀ v h' tk, P (argBest bt (n - 1)) v → (∀ b o, b ∉ wr → b ≠ S → s.heap.get? b = some o → h'.get? b = some o) → R (.ok (.ret v)) { s with heap := h', toks := tk }) :
    codeAny (model prog w) A (.builtin "max.loop" ⟨[.ref I, .none, .ref S], []⟩) R s := by
  have hSw : S ∉ wr := fun h => hSf (W.sub _ h)
  have hname : (toString "max" ++ toString ".loop" : String) = "max.loop" := by decide
  have hne : ∀ b o, hb.get? b = some o → b ≠ S := fun b o e q => by rw [q, hS0] at e; cases e
  refine codeAny_builtin F.entry_max_loop ?_
  rw [Around.under_plainId F.plain_max_loop _]
  show wpAny _ A.in1 (seqItems? (.ref S) >>= _) _ _ s
  refine wpAny_bind (wpAny_seqItems hS rfl ?_)
  show wpAny _ A.in1 (tryCatch (pyNext (.ref I)) _ >>= _) _ _ s
  refine wpAny_bind (wpAny_tryCatch (W.item 0 s _ _ hn hst fun v h' tk hP hst' hk' => ?_))
  have hS' := hk' S _ hSw hS
  show wpAny _ A.in1 (updateSeq S (fun _ => #[v, v]) >>= _) _ _ _
  refine wpAny_bind ?_
  refine wpAny_updateSeq hS' rfl ?_
  rw [hname]
  refine wpAny_pure ⟨plainId_quiet F.plain_max_loop _, max_loopH W bt hb hcmp S hSf hS0 _ 0 _ v _ rfl hn (W.frame _ _ _ hst' fun b hbf o e => ?_) hP (Heap.get?_update_self _ hS' rfl) (fun b o hbw e => (Heap.get?_update_other _ _ (Ne.symm (hne b o e))).trans (hk' b o hbw (hkp b o hbw e))) fun v' h'' tk'' hP' hk'' => ?_⟩
  · exact (Heap.get?_update_other _ _ (fun h : S = b => hSf (by rw [h]; exact hbf))).trans e
  · exact hR v' h'' tk'' hP' fun b o hbw hbS e => hk'' b o hbw hbS ((Heap.get?_update_other _ _ (Ne.symm hbS)).trans (hk' b o hbw e))
end
section
variable {prog : Program} {w : World} {A : Around} {E : Value → Shared → Prop} {s : Shared}
theorem call_max_walkH {x : Value} {Q : Value → Shared → Prop}
    (h : wpAny (model prog w) A.in1 (pyIter x) (fun it s₂ => ∃ I fp wr n P St bt, it = .ref I ∧ Walks prog w A.in1 I fp wr n P St ∧ St 0 s₂.heap ∧ (∀ b ∈ fp, b < s₂.heap.objs.size) ∧ 0 < n ∧ CmpH prog w A.in1 s₂.heap wr .Gt P bt ∧
      ∀ v h' tk, P (argBest bt (n - 1)) v → (∀ b o, b ∉ wr → s₂.heap.get? b = some o → h'.get? b = some o) → Q v { s₂ with heap := h', toks := tk }) E s) :
    wpAny (model prog w) A (call (.builtin "max") [x]) Q E s := by
  have hname : (toString "max" ++ toString ".loop" : String) = "max.loop" := by decide
  refine call_function_tree F.kind_max F.plain_max F.entry_max (F.args_max1 _) ?_
  show wpAny _ A.in1 (Builtin.Builtins.bindParams "max" ["key", "default"] 0 ⟨[], []⟩ >>= _) _ _ s
  refine wpAny_bind (wpAny_of_eq (show Builtin.Builtins.bindParams "max" ["key", "default"] 0 ⟨[], []⟩ = pure [none, none] from rfl) ?_)
  refine wpAny_bind (wpAny_pure ?_)
  refine wpAny_bind (wpAny_mono h (fun it s₂ h₂ => ?_) fun _ _ e => e)
  obtain ⟨I, fp, wr, n, P, St, bt, rfl, W, hst, hfp, hn, hcmp, hQ⟩ := h₂
  refine wpAny_bind (wpAny_newObj_type ?_)
  have hSf : s₂.heap.objs.size ∉ fp := fun hm => Nat.lt_irrefl _ (hfp _ hm)
  have hS0 : s₂.heap.get? s₂.heap.objs.size = Option.none := by
    cases q : s₂.heap.get? s₂.heap.objs.size with
    | none => rfl
    | some o => exact absurd (Heap.lt_size q) (Nat.lt_irrefl _)
  rw [hname]
  refine wpAny_pure ⟨plainId_quiet F.plain_max_loop _, max_firstH W bt s₂.heap hcmp s₂.heap.objs.size hSf hS0 hn (W.frame _ _ _ hst fun b _ o e => Heap.get?_push_of_some _ e) (Heap.get?_push_size _ rfl) (fun b o _ e => Heap.get?_push_of_some _ e) fun v h' tk hP hk => ?_⟩
  exact hQ v h' tk hP fun b o hbw e => hk b o hbw (Nat.ne_of_lt (Heap.lt_size e)) (Heap.get?_push_of_some _ e)
end
section
variable {w : World} {A : Around} {env : Env} {I : Inv}
theorem EV.max_lists {x : Str} {p q : Pos} {e : Expr} {ls : List (List Str)} (hA : Lv 2 A) (hn : EV w A env I (.Name x p) (.val (.builtin "max"))) (he : EV w A env I e (.list (ls.map fun l => .list (l.map .str)))) (hpos : 0 < ls.length)
    (h1 : eval (.Call (.Name x p) [e] [] q) env = (do callWith q (← eval (.Name x p) env) [] (backTo q (starEach [e] env)) (backToKw q (keywordEach [] env))) := by rfl)
    (h2 : starEach [e] env = (false, eval e env) :: starEach [] env := by rfl) (h3 : (backTo q (starEach [] env)).any (·.1) = false := by rfl) :
    EV w A env I (.Call (.Name x p) [e] [] q) (.list (((ls.getD (argBest (fun i j => lexB gtS gtN (ls.getD i []) (ls.getD j [])) (ls.length - 1)) [])).map .str)) := fun s F =>
  Call_ (hn.use F fun v s' r k F' => by
    simp only [Rep] at r; subst r
    refine PyProof.Rows.callWith_builtin1 (args_cons (he.use F' fun v2 s2 r2 k2 F2 => args_nil ?_) h2) h2 h3
    simp only [Rep] at r2
    obtain ⟨a, us, rfl, hl, hr⟩ := r2
    have hal : a < s2.heap.objs.size := by obtain ⟨o, e, _⟩ := hl; exact Heap.lt_size e
    have hlen : us.size = ls.length := by have := repL_len hr; simpa using this
    have hget : ∀ (i : Nat) (v : Value), us[i]? = some v → i < ls.length ∧ ∃ b us2, v = .ref b ∧ s2.heap.IsList b us2 ∧ AreS us2 (ls.getD i []) := fun i v e => by
      have hi : i < ls.length := by rw [← hlen]; exact (Array.getElem?_eq_some_iff.mp e).1
      obtain ⟨v', e', r'⟩ := repL_get hr i (.list (ls[i].map .str)) (by rw [List.getElem?_map, List.getElem?_eq_getElem hi]; rfl)
      rw [Array.getElem?_toList, e] at e'; cases e'
      simp only [Rep] at r'
      obtain ⟨b, us2, rfl, hl2, hr2⟩ := r'
      refine ⟨hi, b, us2, rfl, hl2, ?_⟩
      rw [List.getD_eq_getElem?_getD, List.getElem?_eq_getElem hi]
      refine ⟨by have := repL_len hr2; simpa using this, fun j u eu => ?_⟩
      have hj : j < ls[i].length := by have := repL_len hr2; rw [Array.length_toList, List.length_map] at this; rw [← this]; exact (Array.getElem?_eq_some_iff.mp eu).1
      obtain ⟨u', eu', ru⟩ := repL_get hr2 j (.str ls[i][j]) (by rw [List.getElem?_map, List.getElem?_eq_getElem hj]; rfl)
      rw [Array.getElem?_toList, eu] at eu'; cases eu'
      simp only [Rep] at ru
      obtain ⟨t, rfl⟩ := ru
      exact ⟨_, t, List.getElem?_eq_getElem hj, rfl⟩
    refine call_max_walkH (wpAny_pyIter_list hl ⟨s2.heap.objs.size, _, _, us.size, _, _, fun i j => lexB gtS gtN (ls.getD i []) (ls.getD j []), rfl, Walks.list (A := A.in1) (show A.in1.handled = Option.none from hA.1) s2.heap.objs.size a (Nat.ne_of_lt hal) us, ⟨⟨_, Heap.get?_push_size _ rfl, rfl, rfl⟩, hl.push _⟩, ?_, by rw [hlen]; exact hpos, ?_, ?_⟩)
    · intro b hb
      simp only [List.mem_cons, List.not_mem_nil, or_false] at hb
      show b < (s2.heap.push _).objs.size
      rw [Heap.size_push]
      rcases hb with rfl | rfl
      · exact Nat.lt_succ_self _
      · exact Nat.lt_succ_of_lt hal
    · intro i j vi vj s5 Q5 E5 hk hi hj hq
      obtain ⟨hi', b1, u1, rfl, hl1, ha1⟩ := hget i vi hi
      obtain ⟨hj', b2, u2, rfl, hl2, ha2⟩ := hget j vj hj
      have kk : ∀ b o, s2.heap.get? b = some o → s5.heap.get? b = some o := fun b o e => hk b o (by intro hm; simp only [List.mem_singleton] at hm; subst hm; exact absurd (Heap.lt_size e) (Nat.lt_irrefl _)) (Heap.get?_push_of_some _ e)
      exact rc_lists_gt (hl1.at fun o e => kk _ o e) (hl2.at fun o e => kk _ o e) ha1 ha2 (by have := hA.2.2; show A.units + 1 < 9900; omega) hq
    · intro v h' tk hP hk
      have kk : ∀ b o, s2.heap.get? b = some o → h'.get? b = some o := fun b o e => hk b o (by intro hm; simp only [List.mem_singleton] at hm; subst hm; exact absurd (Heap.lt_size e) (Nat.lt_irrefl _)) (Heap.get?_push_of_some _ e)
      refine ⟨?_, kp_trans k (kp_trans k2 ⟨h', tk, rfl, kk⟩)⟩
      rw [hlen] at hP
      have hi : argBest (fun i j => lexB gtS gtN (ls.getD i []) (ls.getD j [])) (ls.length - 1) < ls.length := by have := (Array.getElem?_eq_some_iff.mp hP).1; rw [hlen] at this; exact this
      obtain ⟨v', e', r'⟩ := repL_get hr _ (.list ((ls[argBest (fun i j => lexB gtS gtN (ls.getD i []) (ls.getD j [])) (ls.length - 1)]).map .str)) (by rw [List.getElem?_map, List.getElem?_eq_getElem hi]; rfl)
      rw [Array.getElem?_toList, hP] at e'; cases e'
      rw [show ls.getD (argBest (fun i j => lexB gtS gtN (ls.getD i []) (ls.getD j [])) (ls.length - 1)) [] = ls[argBest (fun i j => lexB gtS gtN (ls.getD i []) (ls.getD j [])) (ls.length - 1)] by rw [List.getD_eq_getElem?_getD, List.getElem?_eq_getElem hi]; rfl]
      exact r'.keeps kk) h1
end
end
section
section
variable {w : World} {A : Around} {env : Env}
theorem ItVU.enumL {I : Inv} {x : Str} {p pos : Pos} {e : Expr} {l : List Str} (hA : A.handled = none) (hn : EV w A env I (.Name x p) (.val (.type "enumerate"))) (he : EV w A env I e (.list (l.map .str)))
    (h1 : eval (.Call (.Name x p) [e] [] pos) env = (do callWith pos (← eval (.Name x p) env) [] (backTo pos (starEach [e] env)) (backToKw pos (keywordEach [] env))) := by rfl)
    (h2 : starEach [e] env = (false, eval e env) :: starEach [] env := by rfl) :
    ItVU w A env I [] (.Call (.Name x p) [e] [] pos) ((List.range l.length).map fun (i : Nat) => (.int (i : Nat), .str (l.getD i default))) := fun s F Q E hQ =>
  Call_ (hn.use F fun v s0 r k0 F0 => by
    simp only [Rep] at r; subst r
    refine PyProof.Rows.callWith_type1 (args_cons (he.use F0 fun v2 s' r2 k2 F' => args_nil ?_) h2) h2
    simp only [Rep] at r2
    obtain ⟨a, us, rfl, hl0, hr⟩ := r2
    have k := kp_trans k0 k2
    have hlt : a < s'.heap.objs.size := by obtain ⟨o, e, _⟩ := hl0; exact Heap.lt_size e
    have hlen : us.size = l.length := by have := repL_len hr; simpa using this
    refine call_enumerate_list hl0 fun h' he' hit' hsz hk => wpAny_pyIter_enum he' ?_
    have hl : h'.IsList a us := hl0.at fun o e => hk _ o e
    have hef : s'.heap.objs.size + 1 ∉ [s'.heap.objs.size, a] := fun h => by
      simp only [List.mem_cons, List.not_mem_nil, or_false] at h
      rcases h with h | h
      · exact Nat.succ_ne_self _ h
      · rw [← h] at hlt; exact absurd hlt (Nat.not_lt.mpr (Nat.le_succ _))
    have W := ((WalksT.enumerateD (prog := PF) (w := w) (A := A) (Draws.list (A := A.in1) hA s'.heap.objs.size a (Nat.ne_of_lt hlt) us) (s'.heap.objs.size + 1) (Nat.succ_ne_self _) hef (by simp)).toU).bound
    rw [hlen] at W
    have hfr : ∀ b, s'.heap.objs.size ≤ b → s.heap.get? b = Option.none := fun b hb => by
      cases hq : s.heap.get? b with
      | none => rfl
      | some o' => exact absurd (Heap.lt_size (kp_heap k _ _ hq)) (Nat.not_lt.mpr hb)
    refine hQ _ (s'.heap.objs.size + 1) _ _ _ _ _ (kp_trans k ⟨h', _, rfl, hk⟩) ⟨by rw [show ((List.range l.length).map fun (i : Nat) => ((PV.int (i : Nat), PV.str (l.getD i default)) : PV × PV)).length = l.length by simp]; exact W, ?_, ?_, ?_, ?_, ?_, ?_, fun b hb hm => by simp at hm⟩
    · rintro i vs ⟨hi, t, y, hy, rfl⟩
      refine ⟨.int (i : Nat), .str (l.getD i default), _, _, by simp [hi], rfl, rep_int, ?_⟩
      have hi' : i < l.length := hi
      obtain ⟨v', e', r'⟩ := repL_get hr i (.str l[i]) (by rw [List.getElem?_map, List.getElem?_eq_getElem hi']; rfl)
      rw [Array.getElem?_toList, hy] at e'; cases e'
      rw [List.getD_eq_getElem?_getD, List.getElem?_eq_getElem hi']
      simp only [Rep] at r'
      obtain ⟨u, rfl⟩ := r'
      exact rep_str
    · exact ⟨⟨_, he'⟩, hit', hl⟩
    · intro b hb
      simp only [List.mem_cons, List.not_mem_nil, or_false] at hb
      rcases hb with rfl | rfl
      · exact hfr _ (by omega)
      · exact hfr _ (Nat.le_refl _)
    · rintro i h ⟨⟨old, e0⟩, ⟨o1, e1, _, d1⟩, ⟨o2, e2, _, n2, d2⟩⟩ b hb
      simp only [List.mem_cons, List.not_mem_nil, or_false] at hb
      rcases hb with rfl | rfl | rfl
      · exact ⟨_, e0, (fun _ _ e => by cases e), (fun _ e => by cases e)⟩
      · exact ⟨o1, e1, (fun _ _ e => by rw [d1] at e; cases e), (fun _ e => by rw [d1] at e; cases e)⟩
      · exact ⟨o2, e2, (fun _ _ e => by rw [d2] at e; cases e), (fun _ e => by rw [d2] at e; cases e)⟩
    · rintro i h ⟨⟨old, e0⟩, ⟨o1, e1, _, d1⟩, _⟩ b hb o e vs n d
      simp only [List.mem_cons, List.not_mem_nil, or_false] at hb
      rcases hb with rfl | rfl
      · rw [e0] at e; cases e; cases d
      · rw [e1] at e; cases e; rw [d1] at d; cases d
    · rintro i T h ⟨⟨y, e0⟩, ⟨⟨o1, e1, _, d1⟩, _⟩, _, _⟩ b hb
      simp only [List.mem_cons, List.not_mem_nil, or_false] at hb
      rcases hb with rfl | rfl
      · exact ⟨_, e0, (fun _ _ e => by cases e), (fun _ e => by cases e), (fun _ _ e => by cases e)⟩
      · exact ⟨o1, e1, (fun _ _ e => by rw [d1] at e; cases e), (fun _ e => by rw [d1] at e; cases e), (fun _ _ e => by rw [d1] at e; cases e)⟩) h1
end
end
section
theorem take_places {α : Type} (l : List α) (n : Nat) (h : n ≤ l.length) : (sliceRange 0 n 1).filterMap (l[·]?) = l.take n := by
  have e : sliceRange 0 n 1 = List.range n := by
    unfold sliceRange
    rw [if_pos (by decide)]
    by_cases hn : (0 : Int) < n
    · rw [if_pos hn]
      have : (((n : Int) - 0 + 1 - 1) / 1).toNat = n := by rw [Int.ediv_one]; omega
      dsimp only
      rw [this]
      conv => rhs; rw [← List.map_id (List.range n)]
      refine List.map_congr_left fun i hi => ?_
      simp
    · have : n = 0 := by omega
      subst this; simp
  rw [e]
  clear e
  induction n with
  | zero => simp
  | succ n ih =>
    rw [List.range_succ, List.filterMap_append, ih (by omega), List.take_add_one, List.getElem?_eq_getElem (show n < l.length by omega)]
    simp [List.getElem?_eq_getElem (show n < l.length by omega)]
section
variable {w : World} {A : Around} {env : Env} {I : Inv}
theorem EVN.sliceTo {value hi : Expr} {p3 p4 : Pos} {l : List PV} {n : Nat} (hv : EV w A env I value (.list l)) (hh : EV w A env I hi (.int (n : Nat))) (hn : n ≤ l.length) (hsz : l.length ≤ sizeLine)
    (ht : ∀ o r, letTemporaryGo value o r = pure () := by intro _ _; rfl) :
    EVN w A env I (.Subscript value (.Slice Option.none (some hi) Option.none p3) p4) (.plist (l.take n)) := fun s F => by
  refine wpAny_Subscript_Slice slot_list_getitem.lookup (hv.use F fun v s₁ r k F₁ => ?_) ht
  simp only [Rep] at r
  obtain ⟨a, us, rfl, hl, rr⟩ := r
  refine wpAny_Slice (wpAny_pure (hh.use F₁ fun v2 s₂ r2 k2 F₂ => wpAny_pure ?_))
  simp only [Rep] at r2
  obtain ⟨t, rfl⟩ := r2
  have hl0 : s₂.heap.IsList a us := hl.at fun o e => kp_heap k2 _ _ e
  have hk1 : Keeps s₂ { s₂ with heap := s₂.heap.push { cls := .type "slice", data := .fields #[.none, .int (n : Nat) t, .none] } } := ⟨_, _, rfl, fun b o e => Heap.get?_push_of_some _ e⟩
  have hl1 := hl0.push { cls := .type "slice", data := .fields #[.none, .int (n : Nat) t, .none] }
  have hlen : us.size = l.length := by simpa using repL_len rr
  refine ⟨Heap.IsList.typeIs (s := { s₂ with heap := _ }) hl1, ?_⟩
  refine wpAny_getItem_list_slice hl1 (Heap.IsSliceOf.new ..) .none (.int (n : Nat) _) .none (by simp) ⟨⟨?_, kp_trans k (kp_trans k2 (kp_trans hk1 ⟨_, _, rfl, fun b o e => Heap.get?_push_of_some _ e⟩))⟩, fun b hb => ?_⟩ (by rw [hlen]; exact hsz)
  rotate_left
  · cases hb
    cases hq : s.heap.get? (s₂.heap.push { cls := .type "slice", data := .fields #[.none, .int (n : Nat) t, .none] }).objs.size with
    | none => rfl
    | some o => exact absurd (Heap.lt_size (Heap.get?_push_of_some _ (kp_heap k2 _ _ (kp_heap k _ _ hq)))) (Nat.lt_irrefl _)
  simp only [Rep]
  refine ⟨_, _, rfl, ⟨0, Heap.get?_push_size _ rfl⟩, ?_⟩
  have e : (slicePick us Option.none (some (n : Int)) Option.none).toList = (sliceRange 0 n 1).filterMap (us.toList[·]?) := by
    unfold slicePick
    have e1 : sliceBounds Option.none (some (n : Int)) Option.none us.size = (0, (n : Int), 1) := by
      unfold sliceBounds
      simp only [Option.getD_none]
      rw [if_pos (by decide), if_pos (by decide), if_neg (by omega)]
      congr 1
      rw [hlen]
      congr 1
      omega
    rw [e1]
    simp
  rw [e, ← take_places l n hn]
  exact repL_places (rr.keeps (fun b o e => Heap.get?_push_of_some _ (Heap.get?_push_of_some _ (kp_heap k2 _ _ e)))) _
theorem ItV.listV {iter : Expr} {items : List PV} (hA : A.handled = Option.none) (he : EV w A env I iter (.list items)) : ItV w A env I [] iter items := fun s F Q E hQ =>
  no_mono (he s F) fun v s' x => by
    obtain ⟨r, k⟩ := x
    simp only [Rep] at r
    obtain ⟨a, us, rfl, hl, rr⟩ := r
    obtain ⟨o, ho, hc, n, hd⟩ := id hl
    have hlt := Heap.lt_size ho
    have hnew : s.heap.get? s'.heap.objs.size = Option.none := by
      cases hq : s.heap.get? s'.heap.objs.size with
      | none => rfl
      | some o' => exact absurd (Heap.lt_size (kp_heap k _ _ hq)) (Nat.lt_irrefl _)
    refine wpAny_pyIter_list hl (hQ _ s'.heap.objs.size [s'.heap.objs.size, a] [s'.heap.objs.size] (fun i v => us[i]? = some v) (fun i h => h.IsListIter s'.heap.objs.size a i ∧ h.IsList a us) (kp_trans k ⟨_, _, rfl, fun b o e => Heap.get?_push_of_some _ e⟩) (ItOk.mk ?_ (fun i v hv => ?_) ⟨⟨_, Heap.get?_push_size _ rfl, rfl, rfl⟩, hl.push _⟩ ?_ ?_ ?_ ?_))
    · exact (by simpa using repL_len rr : us.size = items.length) ▸ Walks.list hA s'.heap.objs.size a (Nat.ne_of_lt hlt) us
    · obtain ⟨p, hp, rp⟩ := repL_get' rr i v (by simpa using hv)
      exact ⟨p, hp, rp.keeps fun b o e => Heap.get?_push_of_some _ e⟩
    · intro b hb
      simp only [List.mem_singleton] at hb; subst hb
      exact hnew
    · rintro i h ⟨⟨o1, e1, _, d1⟩, ⟨o2, e2, _, n2, d2⟩⟩ b hb
      simp only [List.mem_cons, List.not_mem_nil, or_false] at hb
      rcases hb with rfl | rfl
      · exact ⟨o1, e1, (fun _ _ e => by rw [d1] at e; cases e), (fun _ e => by rw [d1] at e; cases e)⟩
      · exact ⟨o2, e2, (fun _ _ e => by rw [d2] at e; cases e), (fun _ e => by rw [d2] at e; cases e)⟩
    · rintro i h ⟨⟨o1, e1, _, d1⟩, _⟩ b hb o e vs n d
      simp only [List.mem_singleton] at hb; subst hb
      rw [e1] at e; cases e; rw [d1] at d; cases d
    · intro b hb hm; simp at hm
theorem TrV.tup {l : List PV} (h : l.length < 2 ^ 62) : TrV w A (.tup l) (!l.isEmpty) := fun s va r => by
  simp only [Rep] at r
  obtain ⟨a, us, rfl, ht, rr⟩ := r
  have hlen : us.size = l.length := by simpa using repL_len rr
  obtain ⟨n, ht⟩ := ht
  refine truthy_tuple (items := us) ⟨_, ht, rfl, n, rfl⟩ (by omega) ⟨?_, kp_toks _ _⟩
  cases l with
  | nil => have : us = #[] := Array.eq_empty_of_size_eq_zero hlen; subst this; rfl
  | cons p l =>
    have : us.isEmpty = false := by unfold Array.isEmpty; simp; rw [← Array.size_eq_zero_iff, hlen]; simp
    rw [this]; rfl
theorem CallV.str_bytes {x : Str} : CallV w A "isinstance" [.str x, .val (.type "bytes")] (.bool false) := fun s vs r => by
  simp only [RepL, Rep] at r
  obtain ⟨v, vs', rfl, ⟨t, rfl⟩, v2, vs2, rfl, rfl, rfl⟩ := r
  exact IsiPair.str_bytes ⟨rep_bool, kp_toks _ _⟩
end
section
variable {w : World} {A : Around} {env : Env} {s0 : Shared} {m cm : List (Str × PV)} {Z : Heap → Prop} {hz : Stable env Z} {R : Flow → Shared → Prop} {ss : List Stmt}
/-- `x, = {True}` -/
theorem SX.unpackT {x : Str} {px pt pos : Pos} {kk : Nat} {e : Expr} {k : Nat} (hA : A.handled = Option.none) (hk0 : k = 0 → False)
    (he : ∀ s, (FI w s0 env m cm Z hz).P s → ∀ Q : Value → Shared → Prop, (∀ D s', s.heap.get? D = Option.none → s'.heap.get? D = some (setAt (ledW w) k) → Keeps s s' → Q (.ref D) s') → wpAny (model PF w) A (eval e env) Q No s)
    (hl : env.kindOf x = some .local) (hk : env.scope.kind = .function)
    (hs : swapsWithSole [.Tuple [.Name x px] kk pt] e pos.line env = pure false) (hw : swappedStores [.Tuple [.Name x px] kk pt] e env = pure Option.none)
    (ha : assignEach [.Name x px] env = [(false, PySem.assign (.Name x px) env)])
    (hn : SX w A env (FI w s0 env ((x, .bool true) :: m) cm Z hz) ss R) :
    SX w A env (FI w s0 env m cm Z hz) (.Assign [.Tuple [.Name x px] kk pt] e pos :: ss) R := fun s F => by
  refine wpAny_execs_cons (Assign_Tuple (he s F _ fun D s' h0 h1 k1 => ?_) hs hw)
  have h2 : s'.heap.get? D = some (setT 1 (ledW w)) := by
    cases k with
    | zero => exact (hk0 rfl).elim
    | succ k => exact h1
  have F' := (FI w s0 env m cm Z hz).mono _ _ F k1
  show wpAny _ A (standAt pt >>= fun _ => unpack (.ref D) (assignEach [.Name x px] env)) _ _ _
  refine wpAny_bind (wpAny_standAt ?_)
  rw [ha]
  unfold unpack
  refine wpAny_bind (wpAny_holding (unpack_setT hA h2 fun s2 k2 => ?_))
  have F2 := (FI w s0 env m cm Z hz).mono _ _ F' k2
  show wpAny _ A (do holding [] (PySem.assign (.Name x px) env (.bool true)); pure ()) _ _ _
  refine wpAny_bind (wpAny_holding (assign_Name (SX.store F2 hz rep_bool hl hk fun s3 F3 _ => wpAny_pure ?_)))
  exact hn s3 F3
end
end
section
theorem b_tuple {P : Params} : nsFind (esMain P) (Str.ofString "tuple") = none ∧ nsFind (esBui P) (Str.ofString "tuple") = some (.type "tuple") := ⟨by kernel_rfl, by kernel_rfl⟩
theorem b_map {P : Params} : nsFind (esMain P) (Str.ofString "map") = none ∧ nsFind (esBui P) (Str.ofString "map") = some (.type "map") := ⟨by kernel_rfl, by kernel_rfl⟩
noncomputable def keepC (x : Str) : Bool := (x.length != 0) && ((x.cps.toList != [46]) && true)
noncomputable def compsS (a : List Nat) : List Str := (Txt.split (S a) (S [47])).filter keepC
noncomputable def mnL (u v : List Str) : List Str := [u, v].getD (argBest (fun i j => lexB ltS ltN ([u, v].getD i []) ([u, v].getD j [])) (2 - 1)) []
noncomputable def mxL (u v : List Str) : List Str := [u, v].getD (argBest (fun i j => lexB gtS gtN ([u, v].getD i []) ([u, v].getD j [])) (2 - 1)) []
noncomputable def lead : List Str → List Str → Nat
  | x :: xs, y :: ys => if x.cps.toList == y.cps.toList then lead xs ys + 1 else 0
  | _, _ => 0
noncomputable def cpR (u v : List Str) : Str := S [47] ++ Txt.join (S [47]) ((mnL u v).take (lead (mnL u v) (mxL u v)))
theorem S_self (x : Str) : S x.cps.toList = x := by cases x; simp [S]
theorem beq_cm (x y : List Nat) : (x == y) = (y == x) := by
  rw [Bool.eq_iff_iff, beq_iff_eq, beq_iff_eq]; exact ⟨Eq.symm, Eq.symm⟩
theorem lead_le : ∀ (u v : List Str), lead u v ≤ u.length
  | [], _ => by simp [lead]
  | x :: xs, [] => by simp [lead]
  | x :: xs, y :: ys => by
    unfold lead
    split
    · have := lead_le xs ys; simp; omega
    · simp
theorem lead_at : ∀ (u v : List Str) (i : Nat) (x y : Str), i ≤ lead u v → u[i]? = some x → v[i]? = some y → ((x.cps.toList == y.cps.toList) = true → i + 1 ≤ lead u v) ∧ ((x.cps.toList == y.cps.toList) = false → i = lead u v)
  | [], _, i, x, y, _, e, _ => by simp at e
  | a :: u, [], i, x, y, _, _, e => by simp at e
  | a :: u, b :: v, 0, x, y, h, e1, e2 => by
    simp at e1 e2; subst e1 e2
    unfold lead
    constructor
    · intro q; rw [if_pos q]; omega
    · intro q; rw [if_neg (by simp [q])]
  | a :: u, b :: v, i + 1, x, y, h, e1, e2 => by
    unfold lead at h ⊢
    by_cases q : (a.cps.toList == b.cps.toList) = true
    · rw [if_pos q] at h ⊢
      have := lead_at u v i x y (by omega) (by simpa using e1) (by simpa using e2)
      exact ⟨fun z => by have := this.1 z; omega, fun z => by have := this.2 z; omega⟩
    · rw [if_neg q] at h; omega
/-- where the first list is not greater, the second list is long enough -/
theorem lead_in : ∀ (u v : List Str), lexB ltS ltN v u = false → ∀ i, i ≤ lead u v → i < u.length → i < v.length
  | [], _, _, i, _, h => by simp at h
  | a :: u, [], h, i, _, _ => by rw [lexB_nil] at h; simp [ltN] at h
  | a :: u, b :: v, h, 0, _, _ => by simp
  | a :: u, b :: v, h, i + 1, hl, hi => by
    unfold lead at hl
    by_cases q : (a.cps.toList == b.cps.toList) = true
    · rw [if_pos q] at hl
      unfold lexB at h
      rw [if_pos (by simpa using (eq_of_beq q).symm)] at h
      have := lead_in u v h i (by omega) (by simpa using hi)
      simp; omega
    · rw [if_neg q] at hl; omega
theorem lex_gt : ∀ (u v : List Str), lexB gtS gtN u v = lexB ltS ltN v u
  | [], v => by rw [lexB_nil, lexB_nil2]; rfl
  | a :: u, [] => by rw [lexB_nil, lexB_nil2]; rfl
  | a :: u, b :: v => by
    unfold lexB
    rw [beq_cm b.cps.toList a.cps.toList, lex_gt u v]
    rfl
theorem lex_irr : ∀ (u : List Str), lexB ltS ltN u u = false
  | [] => by simp [lexB, ltN]
  | a :: u => by unfold lexB; rw [if_pos (beq_self_eq_true _)]; exact lex_irr u
theorem lex_asym : ∀ (u v : List Str), lexB ltS ltN u v = true → lexB ltS ltN v u = false
  | [], [], h => by simp [lexB, ltN] at h
  | [], b :: v, h => by simp [lexB, ltN]
  | a :: u, [], h => by simp [lexB, ltN] at h
  | a :: u, b :: v, h => by
    unfold lexB at h ⊢
    rw [beq_cm b.cps.toList a.cps.toList]
    by_cases q : (a.cps.toList == b.cps.toList) = true
    · rw [if_pos q] at h ⊢
      exact lex_asym u v h
    · rw [if_neg q] at h ⊢
      unfold ltS at h ⊢
      simp only [decide_eq_true_eq, decide_eq_false_iff_not] at h ⊢
      exact fun z => absurd (List.lt_trans h z) (List.lt_irrefl _)
theorem mnmx (u v : List Str) : lexB ltS ltN (mxL u v) (mnL u v) = false := by
  have e1 : argBest (fun i j => lexB ltS ltN ([u, v].getD i []) ([u, v].getD j [])) (2 - 1) = if lexB ltS ltN v u = true then 1 else 0 := by simp [argBest]
  have e2 : argBest (fun i j => lexB gtS gtN ([u, v].getD i []) ([u, v].getD j [])) (2 - 1) = if lexB ltS ltN u v = true then 1 else 0 := by simp [argBest, lex_gt]
  unfold mxL mnL
  rw [e1, e2]
  by_cases h : lexB ltS ltN v u = true
  · rw [if_pos h, if_neg (by rw [lex_asym v u h]; decide)]
    exact lex_asym v u h
  · rw [if_neg h]
    by_cases h2 : lexB ltS ltN u v = true
    · rw [if_pos h2]; simpa using h
    · rw [if_neg h2]; exact lex_irr u
theorem mn_mem (u v : List Str) : mnL u v = u ∨ mnL u v = v := by
  have e1 : argBest (fun i j => lexB ltS ltN ([u, v].getD i []) ([u, v].getD j [])) (2 - 1) = if lexB ltS ltN v u = true then 1 else 0 := by simp [argBest]
  unfold mnL; rw [e1]
  split
  · exact .inr rfl
  · exact .inl rfl
theorem mx_mem (u v : List Str) : mxL u v = u ∨ mxL u v = v := by
  have e2 : argBest (fun i j => lexB gtS gtN ([u, v].getD i []) ([u, v].getD j [])) (2 - 1) = if lexB ltS ltN u v = true then 1 else 0 := by simp [argBest, lex_gt]
  unfold mxL; rw [e2]
  split
  · exact .inr rfl
  · exact .inl rfl
noncomputable def spF (p : PV) : List PV := match p with | .str x => (Txt.split x (S [47])).map .str | _ => []
noncomputable def keepP : PV → Bool | .str x => keepC x | _ => false
noncomputable def fiF (p : PV) : List PV := match p with | .list l => l.filter keepP | _ => []
theorem fi_strs (l : List Str) : (l.map PV.str).filter keepP = (l.filter keepC).map .str := by
  induction l with
  | nil => rfl
  | cons x l ih =>
    simp only [List.map_cons, List.filter_cons, ih]
    show (if keepC x = true then _ else _) = _
    split <;> simp
end
section
/-- a comprehension, whatever is done with its list -/
noncomputable def CompG (w : World) (A : Around) (env : Env) (I : Inv) (elt : Expr) (x : Str) (px : Pos) (iter : Expr) (ifs : List Expr) (scope : Scope) (pos : Pos) (l : List PV) : Prop :=
  ∀ s, I.P s → ∀ (use : Option (Value → Sem Unit)) (Q : Value → Shared → Prop), (∀ acc C s', Rep s'.heap (.list l) acc → Keeps s s' → s.heap.get? C = Option.none → (∃ m, s'.heap.Ns C m) → (∀ h', Heap.SameBut C s'.heap h' → Rep h' (.list l) acc) → compPost (model PF w) A No use Q acc C (.ok .next) s') →
    wpAny (model PF w) A (comprehension (.ListComp elt [⟨.Name x px, iter, ifs, 0⟩] scope pos) scope env (firstIterPos [⟨.Name x px, iter, ifs, 0⟩] pos) (newList []) (firstAsync [⟨.Name x px, iter, ifs, 0⟩]) (firstIter [⟨.Name x px, iter, ifs, 0⟩] env) use) Q No s
section
variable {w : World} {A : Around} {env : Env}
theorem SX.assignK {s0 : Shared} {m cm : List (Str × PV)} {hz : Stable env fun _ => True} {R : Flow → Shared → Prop} {ss : List Stmt} {elt iter : Expr} {x y : Str} {px py : Pos} {ifs : List Expr} {scope : Scope} {pos spos : Pos} {l : List PV}
    (hnd : (env.cells.map (·.1)).Nodup) (hsw : swapsWith (.ListComp elt [⟨.Name x px, iter, ifs, 0⟩] scope pos) (some (.Name y py)) spos.line env = pure true) (hl : env.kindOf y = some .local) (hk : env.scope.kind = .function)
    (h : CompG w A env (FI w s0 env m cm (fun _ => True) hz) elt x px iter ifs scope pos l)
    (hn : SX w A env (FI w s0 env ((y, .list l) :: m) cm (fun _ => True) hz) ss R) :
    SX w A env (FI w s0 env m cm (fun _ => True) hz) (.Assign [.Name y py] (.ListComp elt [⟨.Name x px, iter, ifs, 0⟩] scope pos) spos :: ss) R := fun s F => by
  refine wpAny_execs_cons ?_
  rw [exec_Assign_Name_used _ _ _ _ hsw]
  refine wpAny_bind (wpAny_standAt (wpAny_bind ?_))
  show wpAny _ A (do let _ ← comprehension (.ListComp elt [⟨.Name x px, iter, ifs, 0⟩] scope pos) scope env _ (newList []) false (eval iter env) (some (PySem.assign (.Name y py) env))) _ _ s
  refine wpAny_bind (wpAny_mono (h s F (some (PySem.assign (.Name y py) env)) (fun _ s' => wpAny (model PF w) A (execs ss env) R No s') fun acc C s' r k hC hnC hr => ?_) (fun _ s' hq => wpAny_pure (wpAny_pure hq)) fun _ _ e => e)
  have hCo : ¬ Own env C := own_dict F hnd hC
  have F' := (FI w s0 env m cm (fun _ => True) hz).mono _ _ F k
  obtain ⟨mc, hnC⟩ := hnC
  show wpAny _ A (PySem.assign (.Name y py) env acc) _ _ _
  refine assign_Name (SX.store F' hz r hl hk fun s2 F2 hkeep => ⟨mc, hnC.at' fun o e => hkeep C o hCo e, fun h3 hs3 => hn _ ?_⟩)
  have hnC2 : s2.heap.Ns C mc := hnC.at' fun o e => hkeep C o hCo e
  have kb : ∀ b o, (∀ vs n, o.data = .seq vs n → s2.heap.get? b = some o → h3.get? b = some o) := fun b o vs n d e => hs3.extBut b o (by rintro rfl; obtain ⟨o', es, ep, e', d', _⟩ := hnC2; rw [e] at e'; cases e'; rw [d] at d'; cases d') e
  refine ⟨FIP.x F2, ?_, FIP.up F2, ?_, ?_, trivial⟩
  · obtain ⟨h, t, rfl, kk⟩ := FIP.kp F2
    have k0 := kp_heap (FIP.kp F)
    exact ⟨h3, t, rfl, fun b o e => hs3.extBut b o (by rintro rfl; rw [k0 _ _ e] at hC; cases hC) (kk b o e)⟩
  · obtain ⟨mv, n, rr⟩ := FIP.loc F2
    exact ⟨mv, n.sameBut hs3 (fun q => hCo (.inl q.symm)), fun z pv e => let ⟨v, a1, b1⟩ := rr z pv e; ⟨v, a1, b1.keepsBut kb⟩⟩
  · obtain ⟨cv, X, rc⟩ := FIP.cel F2
    refine ⟨cv, ⟨fun n c e => ?_, X.apart, X.above⟩, fun z pv e => let ⟨v, a1, b1⟩ := rc z pv e; ⟨v, a1, b1.keepsBut kb⟩⟩
    obtain ⟨o, e', d⟩ := X.cell n c e
    exact ⟨o, hs3.extBut _ _ (by rintro rfl; obtain ⟨o', es, ep, e2, d2, _⟩ := hnC2; rw [e'] at e2; cases e2; rw [d] at d2; cases d2) e', d⟩
theorem compG_L {I : Inv} {elt iter : Expr} {x : Str} {px pos : Pos} {scope : Scope} {cl : List (Str × Addr)} {items : List PV} {f : PV → List PV} (hfl : ∀ p, Told1 p → ∀ q ∈ f p, Flat q = true) (hto : ∀ p ∈ items, Told1 p) (fm : List (Str × PV)) (hit : ItV w A env I [] iter items) (hI : I.Has w)
    (hfm : ∀ s, I.P s → ∀ x pv, fm.lookup x = some pv → ∃ c v, cl.lookup x = some c ∧ s.heap.IsCell c (some v) ∧ Rep s.heap pv v)
    (hclos : closureFor scope env = pure cl) (hcell : ∀ y ∈ scope.names, y.2 ≠ .cell) (hkind : scope.kind = .function)
    (hnames : ∀ y ∈ scope.names, y.2 = .local → scope.names.lookup y.1 = some .local) (hx : scope.names.lookup x = some .local)
    (hsz : items.length ≤ sizeLine)
    (helt : ∀ s C p, p ∈ items → EVN w A (compEnvC scope cl C env) (CI w s (compEnvC scope cl C env) [(x, p)] fm) elt (.plist (f p)))
    (hs : ∀ x, foldedSetIterable iter env x = pure x) :
    CompG w A env I elt x px iter [] scope pos (items.map fun p => .list (f p)) := fun s F use Q hQ => by
  refine wpAny_comprehension_free (use := use) rfl hs hclos hkind hnames (hit s F _ _ fun s' it fp wr P St k ok => ?_)
  refine comp_block_walkCO (RR := fun acc C => compPost (model PF w) A No use Q acc C) ok.walks hsz (fun _ => true) (fun v its => ∀ p, Told1 p → Rep s'.heap p v → ∀ g, RepL g (f p) its.toList) (fun i h st b hb => ?_) hcell hkind hx ok.st (fun b hb => by obtain ⟨o, e, _⟩ := ok.ex 0 _ ok.st b hb; exact Heap.lt_size e) ⟨?_, ?_⟩ ?_
  · obtain ⟨o, e, _⟩ := ok.ex i h st b (ok.walks.sub b hb)
    exact ⟨o, e⟩
  · intro C i v s₃ m₃ E' _ _ _ _ _ _
    exact wpAny_pure ⟨rfl, kp_refl _⟩
  · intro C i v s₃ m₃ E' hC hv _ hn hm hk _
    obtain ⟨p, hp, rp⟩ := ok.vals i v hv
    have hseq : ∀ b o, (∀ vs n, o.data = .seq vs n → s'.heap.get? b = some o → s₃.heap.get? b = some o) := fun b o vs n d e => hk b o (fun hm => ok.nseq 0 _ ok.st b hm o e vs n d) e
    have hr3 := rp.keepsBut hseq
    have hpm := List.mem_of_getElem? hp
    refine no_mono (helt { s₃ with heap := s.heap } C p hpm s₃ (cip_of hI F (kp_heap k) ok.free hk hn hm hr3 hfm)) fun y s₄ z => ?_
    obtain ⟨⟨ry, ky⟩, hfr⟩ := z
    simp only [Rep] at ry
    obtain ⟨T, its, rfl, hT, hr⟩ := ry
    refine ⟨⟨T, its, rfl, hfr T rfl, hT.isList, fun q hq rq g => ?_⟩, ky⟩
    have := told_det hq (hto p hpm) rq rp
    subst this
    exact repL_flat (hfl q hq) hr g
  · intro D C h' tk m' ys vs hD hC hDC hn hl hpl hlen hP hF hnd hk
    have hold : ∀ b o, s.heap.get? b = some o → h'.get? b = some o ∧ b ≠ C := fun b o e => by
      have e' := kp_heap k b o e
      exact ⟨hk b o (fun hm => by rw [ok.free b hm] at e; cases e) e', fun q => by rw [q, hC] at e'; cases e'⟩
    have hC0 : s.heap.get? C = Option.none := by
      cases q : s.heap.get? C with
      | none => rfl
      | some o => exact absurd rfl (hold C o q).2
    have main : ∀ h2, (∀ b o, b ≠ C → h'.get? b = some o → h2.get? b = some o) → Rep h2 (.list (items.map fun p => .list (f p))) (.ref D) := fun h2 hx => by
      simp only [Rep]
      refine ⟨D, ys, rfl, hl.at fun o e => hx _ o hDC e, ?_⟩
      have : vs.filter (fun _ => true) = vs := by simp
      rw [this] at hF
      refine paired_lists (h0 := s'.heap) items hto (hF.mono fun _ _ hy => ?_) (fun j v e => ok.vals j v (hP j v e)) hlen
      obtain ⟨T, its, rfl, h1, hTC, _, _, hlT, hG⟩ := hy
      exact ⟨T, its, rfl, h1, hlT.at fun o e => hx _ o hTC e, hG⟩
    obtain ⟨h2, tk2, rfl, k2⟩ := k
    exact hQ (.ref D) C _ (main h' fun b o _ e => e) ⟨h', tk, rfl, fun b o e => (hold b o e).1⟩ hC0 ⟨m', hn⟩ fun h3 hs3 => main h3 fun b o hb e => hs3.extBut b o hb e
end
end
section
section
variable {w : World} {A : Around}
theorem TrV.str {x : Str} (h : x.length < 2 ^ 62) : TrV w A (.str x) (x.length != 0) := by
  have e := TrV.strS (w := w) (A := A) (l := x.cps.toList) (by simpa [Str.length] using h)
  rw [S_self] at e
  simpa [Str.length] using e
end
set_option maxHeartbeats 8000000 in
theorem pc_commonpath (w : World) (a b : List Nat) (ha : a.head? = some 47) (hb : b.head? = some 47) (hla : a.length ≤ 400) (hlb : b.length ≤ 400)
    (hs : ∀ x, (x = S a ∨ x = S b) → (Txt.split x (S [47])).length ≤ 100 ∧ (Builtin.Str.partsBetween x (Builtin.Str.occurrences x (S [47]) 0 x.length (x.length + 1)) (S [47]).length).length ≤ sizeLine ∧ ∀ y ∈ Txt.split x (S [47]), y.length ≤ 100) :
    PC w 9 167 [.list [.str (S a), .str (S b)]] (.str (cpR (compsS a) (compsS b))) := by
  have hd : (Mine.suf.o_169 w.params).data = .func _ := rfl
  refine PC.body [Str.ofString "paths"] [(Str.ofString "paths", .list [.str (S a), .str (S b)])] rfl (by kernel_rfl) hd (by kernel_rfl) rfl rfl rfl (fun vs h => ?_) ?_ rfl rfl rfl (fun L => Stable.tt) fun A s L hA => ?_
  · obtain ⟨v, rfl⟩ := len1 h; rfl
  · decide +kernel
  have hA6 : Lv 6 A := hA.less (by decide)
  refine SX.assign (pv := .tup [.str (S a), .str (S b)]) (EV.tupmap (l := [S a, S b]) hA6 FI.has (EV.bui FI.has b_tuple.1 b_tuple.2 (by kernel_rfl) (by kernel_rfl) (by kernel_rfl) (by kernel_rfl) (by kernel_rfl)) (EV.bui FI.has b_map.1 b_map.2 (by kernel_rfl) (by kernel_rfl) (by kernel_rfl) (by kernel_rfl) (by kernel_rfl)) (EV.glob FI.has g_fspath (by kernel_rfl) (by kernel_rfl) (by kernel_rfl) (by kernel_rfl)) ?p1 (by simp [sizeLine])) (by kernel_rfl) (by kernel_rfl) (by rfl) ?_
  case p1 =>
    show EV _ _ _ _ _ (.list [.str (S a), .str (S b)])
    walk_at "ev"
  refine SX.if_ (b := false) (EB.not (b := true) (EB.plain (a := .tup [.str (S a), .str (S b)]) ?q1 (TrV.tup (by simp)))) (fun h => by cases h) (fun _ => SX.then_nil ?_)
  case q1 => walk_at "ev"
  refine SX.if_ (b := false) (EB.plain (a := .bool false) (EV.callbui (EV.bui FI.has b_isi.1 b_isi.2 (by kernel_rfl) (by kernel_rfl) (by kernel_rfl) (by kernel_rfl) (by kernel_rfl)) (EVs.cons (EV.sub (a := .tup [.str (S a), .str (S b)]) (i := .int ((0 : Nat) : Int)) ?q2 EV.int (SubV.tup (r := .str (S a)) rfl (by decide) (fun a u => by with_unfolding_all rfl) (fun a r => by with_unfolding_all rfl))) (EVs.cons (EV.bui FI.has b_bytes.1 b_bytes.2 (by kernel_rfl) (by kernel_rfl) (by kernel_rfl) (by kernel_rfl) (by kernel_rfl)) EVs.nil rfl) rfl) CallV.str_bytes) TrV.bool) (fun h => by cases h) (fun _ => ?_)
  case q2 => walk_at "ev"
  refine SX.assignC (pv := .str (S [47])) (c := L + 1) (EV.strS (by decide +kernel)) (by kernel_rfl) (by kernel_rfl) (by kernel_rfl) (by rfl) ?_
  refine SX.assignC (pv := .str (S [46])) (c := L + 2) (EV.strS (by decide +kernel)) (by kernel_rfl) (by kernel_rfl) (by kernel_rfl) (by rfl) (SX.then_nil ?_)
  refine SX.try_ ?_
  refine SX.assignK (l := [PV.list (spF (.str (S a))), PV.list (spF (.str (S b)))]) (nd_of (by decide +kernel)) (by rfl) (by kernel_rfl) (by kernel_rfl) (compG_L (items := [.str (S a), .str (S b)]) (f := spF) ?c1 ?c2 [(Str.ofString "sep", .str (S [47]))] (ItV.tup hA.1 ?c3) FI.has ?c4 rfl (by decide +kernel) rfl (by decide +kernel) (by kernel_rfl) (by simp [sizeLine]) ?c11 (fun x => rfl)) ?_
  case c3 => walk_at "ev"
  case c1 =>
    rintro p (⟨x, rfl⟩ | ⟨l, rfl⟩) q hq
    · obtain ⟨y, _, rfl⟩ := List.mem_map.mp hq; rfl
    · simp [spF] at hq
  case c2 =>
    intro p hp
    simp only [List.mem_cons, List.not_mem_nil, or_false] at hp
    rcases hp with rfl | rfl <;> exact .inl ⟨_, rfl⟩
  case c4 =>
    intro s' F x pv e
    obtain ⟨cv, X, r⟩ := FIP.cel F
    simp only [List.lookup_cons, List.lookup_nil] at e
    cases hb : x == Str.ofString "sep" with
    | false => rw [hb] at e; cases e
    | true =>
      rw [hb] at e; cases e
      rw [eq_of_beq hb]
      obtain ⟨v, hv, rv⟩ := r (Str.ofString "sep") (.str (S [47])) (by walk_at "lk")
      exact ⟨L + 1, v, by kernel_rfl, hv ▸ X.cell _ _ (by kernel_rfl), rv⟩
  case c11 =>
    intro s' C p hp
    have hx : ∃ x, p = .str x ∧ (x = S a ∨ x = S b) := by
      simp only [List.mem_cons, List.not_mem_nil, or_false] at hp
      rcases hp with rfl | rfl
      · exact ⟨_, rfl, .inl rfl⟩
      · exact ⟨_, rfl, .inr rfl⟩
    obtain ⟨x, rfl, hx⟩ := hx
    have hxl : x.length ≤ sizeLine := by
      rcases hx with rfl | rfl <;> (rw [S_length]; show _ ≤ 16777216; omega)
    refine EVN.split (x := x) (y := S [47]) (EV.locK at_here (by kernel_rfl) (by kernel_rfl) (by kernel_rfl)) (EV.cellK at_here (by kernel_rfl) (by kernel_rfl) (by kernel_rfl)) (by rfl) hxl (hs x hx).2.1 rfl rfl rfl
  refine SX.try_ (SX.unpackT (k := 2) hA.1 (by intro h; cases h) ?u1 (by kernel_rfl) (by kernel_rfl) (by rfl) (by rfl) (by rfl) (SX.then_nil ?_))
  case u1 =>
    intro s1 F1 Q hQ
    refine setcomp (items := [.str (S a), .str (S b)]) [(Str.ofString "sep", .str (S [47]))] (ItV.tup hA.1 ?v3) FI.has ?v4 rfl (by decide +kernel) rfl (by decide +kernel) (by kernel_rfl) ?v11 (fun x => rfl) F1 hQ
    case v3 => walk_at "ev"
    case v4 =>
      intro s' F x pv e
      obtain ⟨cv, X, r⟩ := FIP.cel F
      simp only [List.lookup_cons, List.lookup_nil] at e
      cases hb : x == Str.ofString "sep" with
      | false => rw [hb] at e; cases e
      | true =>
        rw [hb] at e; cases e
        rw [eq_of_beq hb]
        obtain ⟨v, hv, rv⟩ := r (Str.ofString "sep") (.str (S [47])) (by walk_at "lk")
        exact ⟨L + 1, v, by kernel_rfl, hv ▸ X.cell _ _ (by kernel_rfl), rv⟩
    case v11 =>
      intro s' C p hp
      have hx : ∃ c, p = .str (S c) ∧ c.head? = some 47 := by
        simp only [List.mem_cons, List.not_mem_nil, or_false] at hp
        rcases hp with rfl | rfl
        · exact ⟨_, rfl, ha⟩
        · exact ⟨_, rfl, hb⟩
      obtain ⟨c, rfl, hc⟩ := hx
      have hst : Txt.startswith (S c) (S [47]) = true := by rw [starts_slash, hc]; rfl
      exact EV.as (EV.startswith (x := S c) (y := S [47]) (EV.locK at_here (by kernel_rfl) (by kernel_rfl) (by kernel_rfl)) (EV.cellK at_here (by kernel_rfl) (by kernel_rfl) (by kernel_rfl)) rfl rfl rfl) (congrArg PV.bool hst)
  refine SX.assignK (l := [PV.list (fiF (.list (spF (.str (S a))))), PV.list (fiF (.list (spF (.str (S b)))))]) (nd_of (by decide +kernel)) (by rfl) (by kernel_rfl) (by kernel_rfl) (compG_L (items := [.list (spF (.str (S a))), .list (spF (.str (S b)))]) (f := fiF) ?d1 ?d2 [(Str.ofString "curdir", .str (S [46]))] (ItV.listV hA.1 ?d3) FI.has ?d4 rfl (by decide +kernel) rfl (by decide +kernel) (by kernel_rfl) (by simp [sizeLine]) ?d11 (fun x => rfl)) ?_
  case d3 => walk_at "ev"
  case d1 =>
    rintro p (⟨x, rfl⟩ | ⟨l, rfl⟩) q hq
    · simp [fiF] at hq
    · obtain ⟨y, _, rfl⟩ := List.mem_map.mp (List.mem_filter.mp (show q ∈ (l.map PV.str).filter keepP from hq)).1
      rfl
  case d2 =>
    intro p hp
    simp only [List.mem_cons, List.not_mem_nil, or_false] at hp
    rcases hp with rfl | rfl <;> exact .inr ⟨_, rfl⟩
  case d4 =>
    intro s' F x pv e
    obtain ⟨cv, X, r⟩ := FIP.cel F
    simp only [List.lookup_cons, List.lookup_nil] at e
    cases hb : x == Str.ofString "curdir" with
    | false => rw [hb] at e; cases e
    | true =>
      rw [hb] at e; cases e
      rw [eq_of_beq hb]
      obtain ⟨v, hv, rv⟩ := r (Str.ofString "curdir") (.str (S [46])) (by walk_at "lk")
      exact ⟨L + 2, v, by kernel_rfl, hv ▸ X.cell _ _ (by kernel_rfl), rv⟩
  case d11 =>
    intro s' C p hp
    have hx : ∃ x, p = .list ((Txt.split x (S [47])).map .str) ∧ (x = S a ∨ x = S b) := by
      simp only [List.mem_cons, List.not_mem_nil, or_false] at hp
      rcases hp with rfl | rfl
      · exact ⟨_, rfl, .inl rfl⟩
      · exact ⟨_, rfl, .inr rfl⟩
    obtain ⟨x, rfl, hx⟩ := hx
    rw [show fiF (.list ((Txt.split x (S [47])).map .str)) = ((Txt.split x (S [47])).filter keepC).map .str from fi_strs _]
    refine EVN.compF [(Str.ofString "curdir", .str (S [46]))] (ItV.listV hA.1 ?f3) CI.has ?f4 rfl (by decide +kernel) rfl (by decide +kernel) (by kernel_rfl) (Nat.le_trans (hs x hx).1 (by decide)) ?f10 ?f11 (fun x => rfl)
    case f3 => exact EV.locK at_here (by kernel_rfl) (by kernel_rfl) (by kernel_rfl)
    case f4 =>
      intro s2 F2 y pv e
      simp only [List.lookup_cons, List.lookup_nil] at e
      cases hb : y == Str.ofString "curdir" with
      | false => rw [hb] at e; cases e
      | true =>
        rw [hb] at e; cases e
        rw [eq_of_beq hb]
        obtain ⟨c, v, hc, hv, rv⟩ := CIP.cel F2 (Str.ofString "curdir") (.str (S [46])) at_here
        have hc' : some (L + 2) = some c := Eq.trans (by kernel_rfl) hc
        cases hc'
        exact ⟨L + 2, v, by kernel_rfl, hv, rv⟩
    case f10 =>
      intro s2 C2 y hy
      have hyl := (hs x hx).2.2 y hy
      exact EB.and (EB.plain (EV.locK at_here (by kernel_rfl) (by kernel_rfl) (by kernel_rfl)) (TrV.str (by omega))) fun _ => EB.and (EB.cmp (a := .str y) (b := .str (S [46])) (EV.locK at_here (by kernel_rfl) (by kernel_rfl) (by kernel_rfl)) (EV.cellK at_here (by kernel_rfl) (by kernel_rfl) (by kernel_rfl)) CmpV.ne_str) fun _ => EB.and_nil
    case f11 =>
      intro s2 C2 y hy
      exact EV.locK at_here (by kernel_rfl) (by kernel_rfl) (by kernel_rfl)
  have hA2 : Lv 2 A := hA.less (by decide)
  have hsp : ∀ (m cm : List (Str × PV)) (A : Around) (env : Env) (I : Inv) (e : Expr), EV w A env I e (.list [PV.list (fiF (.list (spF (.str (S a))))), PV.list (fiF (.list (spF (.str (S b)))))]) → EV w A env I e (.list ([compsS a, compsS b].map fun l => .list (l.map .str))) := fun m cm A env I e h =>
    EV.as h (congrArg PV.list (by
      show [PV.list (fiF (.list (spF (.str (S a))))), PV.list (fiF (.list (spF (.str (S b)))))] = [PV.list ((compsS a).map .str), PV.list ((compsS b).map .str)]
      rw [show fiF (.list (spF (.str (S a)))) = (compsS a).map .str from fi_strs _, show fiF (.list (spF (.str (S b)))) = (compsS b).map .str from fi_strs _]))
  refine SX.assign (pv := .list ((mnL (compsS a) (compsS b)).map .str)) (EV.min_lists (ls := [compsS a, compsS b]) hA2 (EV.bui FI.has b_min.1 b_min.2 (by kernel_rfl) (by kernel_rfl) (by kernel_rfl) (by kernel_rfl) (by kernel_rfl)) (hsp [] [] _ _ _ _ ?g1) (Nat.succ_pos _)) (by kernel_rfl) (by kernel_rfl) (by rfl) ?_
  case g1 => walk_at "ev"
  refine SX.assign (pv := .list ((mxL (compsS a) (compsS b)).map .str)) (EV.max_lists (ls := [compsS a, compsS b]) hA2 (EV.bui FI.has b_max.1 b_max.2 (by kernel_rfl) (by kernel_rfl) (by kernel_rfl) (by kernel_rfl) (by kernel_rfl)) (hsp [] [] _ _ _ _ ?g2) (Nat.succ_pos _)) (by kernel_rfl) (by kernel_rfl) (by rfl) ?_
  case g2 => walk_at "ev"
  refine SX.assign (pv := .list ((mnL (compsS a) (compsS b)).map .str)) ?g3 (by kernel_rfl) (by kernel_rfl) (by rfl) ?_
  case g3 => walk_at "ev"
  have hcl : ∀ x, (x = S a ∨ x = S b) → ((Txt.split x (S [47])).filter keepC).length ≤ 100 ∧ ∀ y ∈ (Txt.split x (S [47])).filter keepC, y.length ≤ 100 := fun x hx => ⟨Nat.le_trans (List.length_filter_le _ _) (hs x hx).1, fun y hy => (hs x hx).2.2 y (List.mem_filter.mp hy).1⟩
  have hmn : (mnL (compsS a) (compsS b)).length ≤ 100 ∧ ∀ y ∈ mnL (compsS a) (compsS b), y.length ≤ 100 := by
    rcases mn_mem (compsS a) (compsS b) with e | e <;> rw [e]
    · exact hcl _ (.inl rfl)
    · exact hcl _ (.inr rfl)
  have hmx : (mxL (compsS a) (compsS b)).length ≤ 100 := by
    rcases mx_mem (compsS a) (compsS b) with e | e <;> rw [e]
    · exact (hcl _ (.inl rfl)).1
    · exact (hcl _ (.inr rfl)).1
  have hlex := mnmx (compsS a) (compsS b)
  generalize hu : mnL (compsS a) (compsS b) = u at hmn hlex ⊢
  generalize hv : mxL (compsS a) (compsS b) = v at hmx hlex ⊢
  rw [show cpR (compsS a) (compsS b) = S [47] ++ Txt.join (S [47]) (u.take (lead u v)) by unfold cpR; rw [hu, hv]]
  have hjoin : ∀ n, ((u.take n).map (·.length)).sum + (u.take n).length * 1 ≤ 10100 := fun n => by
    have h1 : ∀ l : List Str, (∀ y ∈ l, y.length ≤ 100) → (l.map (·.length)).sum ≤ 100 * l.length := by
      intro l
      induction l with
      | nil => simp
      | cons y l ih =>
        intro h
        have := ih fun z hz => h z (.tail _ hz)
        have := h y (.head _)
        simp only [List.map_cons, List.sum_cons, List.length_cons]
        omega
    have h2 := h1 (u.take n) fun y hy => hmn.2 y (List.mem_of_mem_take hy)
    have h3 : (u.take n).length ≤ 100 := by rw [List.length_take]; omega
    omega
  have hjl : (Txt.join (S [47]) (u.take (lead u v))).length ≤ 10100 := by
    unfold Txt.join
    rw [StrLaws.glued_eq_join]
    exact Nat.le_trans (StrLaws.join_length_le _ _) (hjoin _)
  refine SX.weak (m' := [(Str.ofString "common", .list (u.map .str)), (Str.ofString "s2", .list (v.map .str)), (Str.ofString "s1", .list (u.map .str)), (Str.ofString "isabs", .bool true)]) ?_ (fun p hp => ?_)
  rotate_left
  · simp only [List.mem_cons, List.not_mem_nil, or_false] at hp
    rcases hp with rfl | rfl | rfl | rfl <;> walk_at "lk"
  refine fun s1 F1 => (SX.for2 (w := w) (A := A) (s0 := s) (items := (List.range u.length).map fun (i : Nat) => (.int (i : Nat), .str (u.getD i default))) []
    (fun _ => [(Str.ofString "common", .list (u.map .str)), (Str.ofString "s2", .list (v.map .str)), (Str.ofString "s1", .list (u.map .str)), (Str.ofString "isabs", .bool true)])
    (fun _ => [(Str.ofString "common", .list ((u.take (lead u v)).map .str)), (Str.ofString "isabs", .bool true)])
    (fun i _ => i ≤ lead u v) (fun _ _ => True) (fun _ => True) hA.1 Off.tt (fun i h h' y _ => y) (fun i h y d hd => by simp at hd) (by simp) (nd_of (by decide +kernel)) (fun i => Stable.tt.and off_const) rfl ?it2 ?fl2 (by kernel_rfl) (by kernel_rfl) (by kernel_rfl) ?turn2 ?els2 ?brk2 (fun x => rfl) (by rfl)) s1 (FIP.restab F1 ⟨trivial, Nat.zero_le _⟩)
  case it2 =>
    refine ItVU.enumL hA.1 (EV.bui FI.has b_enum.1 b_enum.2 (by kernel_rfl) (by kernel_rfl) (by kernel_rfl) (by kernel_rfl) (by kernel_rfl)) ?it3
    case it3 => walk_at "ev"
  case fl2 =>
    intro p hp
    obtain ⟨i, _, rfl⟩ := List.mem_map.mp hp
    exact ⟨rfl, rfl⟩
  case turn2 =>
    intro i p q Zb hzb hp hob hzx s2 F2
    obtain ⟨hi, rfl, rfl⟩ : i < u.length ∧ p = .int (i : Nat) ∧ q = .str (u.getD i default) := by
      rw [List.getElem?_map] at hp
      obtain ⟨j, hj, e⟩ := Option.map_eq_some_iff.mp hp
      have := List.getElem?_eq_some_iff.mp hj
      obtain ⟨h1, h2⟩ := this
      simp at h1 h2
      subst h2
      cases e
      exact ⟨h1, rfl, rfl⟩
    have hle : i ≤ lead u v := (FIP.z F2).2
    have hiv : i < v.length := lead_in u v hlex i hle hi
    have hug : u.getD i default = u[i] := by rw [List.getD_eq_getElem?_getD, List.getElem?_eq_getElem hi]; rfl
    have hla := lead_at u v i u[i] v[i] hle (List.getElem?_eq_getElem hi) (List.getElem?_eq_getElem hiv)
    rw [hug] at F2
    refine SX.if_ (ss := []) (I := FI w s _ ((Str.ofString "c", .str u[i]) :: (Str.ofString "i", .int (i : Nat)) :: [(Str.ofString "common", .list (u.map .str)), (Str.ofString "s2", .list (v.map .str)), (Str.ofString "s1", .list (u.map .str)), (Str.ofString "isabs", .bool true)]) _ _ hzb) (b := u[i].cps.toList != v[i].cps.toList) (EB.cmp (a := .str u[i]) (b := .str v[i]) ?t1 (EV.sub (a := .list (v.map .str)) (i := .int (i : Nat)) ?t2 ?t3 (SubV.list (r := .str v[i]) (by rw [List.getElem?_map, List.getElem?_eq_getElem hiv]; rfl) (by omega) (fun a u => by with_unfolding_all rfl) (fun a r => by with_unfolding_all rfl))) CmpV.ne_str) (fun h => ?t4) (fun h => ?t5) s2 F2
    case t1 => walk_at "ev"
    case t2 => walk_at "ev"
    case t3 => walk_at "ev"
    case t4 =>
      have hlead : i = lead u v := hla.2 (by simpa [bne] using h)
      refine SX.assign (pv := .list ((u.map .str).take i)) (EV.weak (EVN.ev (EVN.sliceTo ?k1 ?k2 (by simp; omega) (by simp [sizeLine]; omega)))) (by kernel_rfl) (by kernel_rfl) (by rfl) (SX.brk fun s3 F3 => ?k3)
      case k1 => walk_at "ev"
      case k2 => walk_at "ev"
      case k3 =>
        refine FIP.weaken (FIP.restab F3 ⟨(FIP.z F3).1, trivial⟩) fun p hp => ?_
        simp only [List.mem_cons, List.not_mem_nil, or_false] at hp
        rcases hp with rfl | rfl
        · rw [← hlead, List.map_take]; exact at_here
        · walk_at "lk"
    case t5 =>
      have hnx : i + 1 ≤ lead u v := hla.1 (by simpa [bne] using h)
      refine SX.nil fun s3 F3 => wpAny_execs_nil ?_
      refine FIP.weaken (FIP.restab F3 ⟨(FIP.z F3).1, hnx⟩) fun p hp => ?_
      simp only [List.mem_cons, List.not_mem_nil, or_false] at hp
      rcases hp with rfl | rfl | rfl | rfl <;> walk_at "lk"
  case brk2 =>
    intro i s2 hi F2
    refine (?fin : SX w A _ (FI w s _ [(Str.ofString "common", .list ((u.take (lead u v)).map .str)), (Str.ofString "isabs", .bool true)] _ (fun _ => True) Stable.tt) _ _) s2 (FIP.restab F2 trivial)
    refine SX.assign (pv := .str (S [47])) (EV.ifexp (c := true) (EB.plain (a := .bool true) ?n1 TrV.bool) (fun _ => ?n2) (fun h => by cases h)) (by kernel_rfl) (by kernel_rfl) (by rfl) (SX.ret (EV.binop (a := .str (S [47])) (b := .str (Txt.join (S [47]) (u.take (lead u v)))) ?n3 (EV.join ?n4 ?n5 (Nat.le_trans (hjoin _) (by decide)) rfl rfl rfl) (OpV.add_str (by rw [Str.length_append]; show 1 + _ ≤ 16777216; omega))) fun s3 v3 F3 r => ⟨v3, rfl, r, FIP.kp F3⟩)
    case n1 => walk_at "ev"
    case n2 => exact EV.cell (c := L + 1) (by walk_at "lk") (by kernel_rfl) (by kernel_rfl) (by kernel_rfl) (by kernel_rfl)
    case n3 => walk_at "ev"
    case n4 => exact EV.cell (c := L + 1) (by walk_at "lk") (by kernel_rfl) (by kernel_rfl) (by kernel_rfl) (by kernel_rfl)
    case n5 => walk_at "ev"
  case els2 =>
    intro s2 F2
    rw [show ((List.range u.length).map fun (i : Nat) => ((PV.int (i : Nat), PV.str (u.getD i default)) : PV × PV)).length = u.length by simp] at F2
    have hl : lead u v = u.length := Nat.le_antisymm (lead_le u v) (FIP.z F2).2
    have htk : u.take (lead u v) = u := by rw [hl, List.take_length]
    rw [htk] at hjl ⊢
    have hj2 := hjoin u.length
    rw [List.take_length] at hj2
    refine SX.then_nil (I := FI w s _ [(Str.ofString "common", .list (u.map .str)), (Str.ofString "s2", .list (v.map .str)), (Str.ofString "s1", .list (u.map .str)), (Str.ofString "isabs", .bool true)] _ (fun _ => True) Stable.tt) ?_ s2 (FIP.restab F2 trivial)
    refine SX.assign (pv := .str (S [47])) (EV.ifexp (c := true) (EB.plain (a := .bool true) ?n1 TrV.bool) (fun _ => ?n2) (fun h => by cases h)) (by kernel_rfl) (by kernel_rfl) (by rfl) (SX.ret (EV.binop (a := .str (S [47])) (b := .str (Txt.join (S [47]) u)) ?n3 (EV.join ?n4 ?n5 (Nat.le_trans hj2 (by decide)) rfl rfl rfl) (OpV.add_str (by rw [Str.length_append]; show 1 + _ ≤ 16777216; omega))) fun s3 v3 F3 r => ⟨v3, rfl, r, FIP.kp F3⟩)
    case n1 => walk_at "ev"
    case n2 => exact EV.cell (c := L + 1) (by walk_at "lk") (by kernel_rfl) (by kernel_rfl) (by kernel_rfl) (by kernel_rfl)
    case n3 => walk_at "ev"
    case n4 => exact EV.cell (c := L + 1) (by walk_at "lk") (by kernel_rfl) (by kernel_rfl) (by kernel_rfl) (by kernel_rfl)
    case n5 => walk_at "ev"
end
section
set_option maxHeartbeats 4000000 in
theorem pc_law_period9 (w : World) (e0 : List Nat) (er : List (List Nat)) (cp : List Nat → List Nat) (hcp : ∀ e ∈ er, PC w 9 167 [.list [.str (S e0), .str (S e)]] (.str (S (cp e)))) (hlen : er.length ≤ 20) (n : Nat) (hn : n ≤ er.length)
    (hlow : ∀ i, i < n → ∀ e, er[i]? = some e → cp e ≠ e) (hend : ∀ e, er[n]? = some e → cp e = e) : PC w 11 238 [.list (PVs (e0 :: er))] (.int ((n + 1 : Nat) : Int)) := by
  have hd : (Mine.suf.o_246 w.params).data = .func _ := rfl
  refine PC.body [Str.ofString "ends"] [(Str.ofString "ends", .list (PVs (e0 :: er)))] rfl (by kernel_rfl) hd (by kernel_rfl) rfl rfl rfl (fun vs h => ?_) ?_ rfl rfl rfl (fun L => Stable.tt) fun A s L hA => ?_
  · obtain ⟨v, rfl⟩ := len1 h; rfl
  · decide +kernel
  have hA6 : Lv 9 A := hA.less (by decide)
  refine SX.assign (EV.as EV.int (congrArg PV.int (show (1 : Int) = ((0 + 1 : Nat) : Int) from rfl))) (by kernel_rfl) (by kernel_rfl) (by rfl) ?_
  refine SX.while_ (fun i => [(Str.ofString "step", .int ((i + 1 : Nat) : Int)), (Str.ofString "ends", .list (PVs (e0 :: er)))]) (fun i => decide (((i + 1 : Nat) : Int) < (((e0 :: er).length : Nat) : Int)) && ((match er[i]? with | some e => (S (cp e)).cps.toList != (S e).cps.toList | Option.none => false) && true)) n rfl ?hb ?hn ?ht ?turn ?after
  case hb =>
    intro i hi
    have hi' : i < er.length := by omega
    have := hlow i hi _ (List.getElem?_eq_getElem hi')
    rw [List.getElem?_eq_getElem hi']
    simp [S_toList, this]; omega
  case hn =>
    by_cases h : n < er.length
    · have := hend _ (List.getElem?_eq_getElem h)
      rw [List.getElem?_eq_getElem h]
      simp [S_toList, this]
    · have : n = er.length := by omega
      simp [this]
  case ht =>
    intro i hi
    refine EB.and ?_ fun h => EB.and ?_ fun _ => EB.and_nil
    · refine EB.cmp (by walk_at "ev") (EV.callbui (EV.bui FI.has b_len.1 b_len.2 (by kernel_rfl) (by kernel_rfl) (by kernel_rfl) (by kernel_rfl) (by kernel_rfl)) (EVs.cons (by walk_at "ev") EVs.nil rfl) (CallV.len_list (by simp; omega))) (CmpV.as CmpV.lt_int (by simp))

    · have hi' : i < er.length := by simpa using h
      rw [List.getElem?_eq_getElem hi']
      have hsub : ∀ (u v : Expr), True := fun _ _ => trivial
      have h1 : (PVs (e0 :: er))[i + 1]? = some (.str (S er[i])) := by simp [hi']
      refine EB.cmp (a := .str (S (cp er[i]))) (b := .str (S er[i])) (EV.fn (hcp er[i] (List.getElem_mem _)) (fn_commonpath w) hA6 (EV.glob FI.has g_commonpath (by kernel_rfl) (by kernel_rfl) (by kernel_rfl) (by kernel_rfl)) (EVs.cons (EV.list (EVs.cons ?s0 (EVs.cons ?s1 EVs.nil rfl) rfl) (by simp [sizeLine])) EVs.nil rfl) FI.has) ?s2 CmpV.ne_str
      case s0 => exact EV.sub (a := .list (PVs (e0 :: er))) (i := .int ((0 : Nat) : Int)) (by walk_at "ev") EV.int (SubV.list (r := .str (S e0)) rfl (by decide) (fun a u => by with_unfolding_all rfl) (fun a r => by with_unfolding_all rfl))
      case s1 => exact EV.sub (a := .list (PVs (e0 :: er))) (i := .int ((i + 1 : Nat) : Int)) (by walk_at "ev") (by walk_at "ev") (SubV.list h1 (by omega) (fun a u => by with_unfolding_all rfl) (fun a r => by with_unfolding_all rfl))
      case s2 => exact EV.sub (a := .list (PVs (e0 :: er))) (i := .int ((i + 1 : Nat) : Int)) (by walk_at "ev") (by walk_at "ev") (SubV.list h1 (by omega) (fun a u => by with_unfolding_all rfl) (fun a r => by with_unfolding_all rfl))
  case turn =>
    intro i hi
    refine SX.aug (by walk_at "lk") EV.int IOpV.add_int (by kernel_rfl) (by kernel_rfl) (SX.nil fun s' F => ⟨rfl, F.weaken fun p hp => ?_⟩)
    simp only [List.mem_cons, List.not_mem_nil, or_false] at hp
    rcases hp with rfl | rfl
    · exact at_here
    · walk_at "lk"
  case after =>
    exact SX.ret (pv := .int ((n + 1 : Nat) : Int)) (by walk_at "ev") fun s' v F r => ⟨v, rfl, r, FIP.kp F⟩
end
section
/-- one object that is no frame, no table and no code record is written -/
theorem G.wr {w : World} {base h h' : Heap} {outer : List Env} {c : Addr} (g : G w base outer h) (k : ∀ b o, b ≠ c → h.get? b = some o → h'.get? b = some o) (hb : base.get? c = none) (ho : c ∉ outer.filterMap (·.frame)) (h2 : c ≠ 204 ∧ c ≠ 200)
    (hc : ∀ o vs, h.get? c = some o → o.data = .fields vs → ∀ u t, vs[1]? ≠ some (.str u t)) : G w base outer h' := by
  refine ⟨g.xat, g.n200, fun b o e => k b o (fun q => by rw [q, hb] at e; cases e) (g.st b o e), ?_, g.tab.but fun b o vs e d r => k b o (fun q => ?_) e⟩
  · have hf := g.fr
    clear g
    induction outer with
    | nil => trivial
    | cons env rest ih =>
      obtain ⟨hk, ⟨L', o, hf1, hn, ho', hd⟩, hr⟩ := hf
      rw [List.filterMap_cons, hf1] at ho
      simp only [List.mem_cons, not_or] at ho
      exact ⟨hk, ⟨L', o, hf1, hn, k _ _ (fun q => ho.1 q.symm) ho', hd⟩, ih ho.2 hr⟩
  · subst q
    rcases r with r | r | ⟨u, t, r⟩
    · exact h2.1 r
    · exact h2.2 r
    · exact hc o vs e d u t r
end
section
noncomputable abbrev stI (stp : Nat → Nat) (n : Nat) : List PV := (List.range n).map fun i => .int (stp i : Nat)
theorem stI_flat (stp : Nat → Nat) (n : Nat) : ∀ p ∈ stI stp n, Flat p = true := fun p hp => by
  obtain ⟨i, _, rfl⟩ := List.mem_map.mp hp; rfl
section
variable {w : World} {A : Around} {env : Env} {I : Inv}
/-- a comprehension over a range, whose element is a call that may catch exceptions -/
theorem steps_comp {elt iter : Expr} {x : Str} {px pos : Pos} {scope : Scope} {cl : List (Str × Addr)} {use : Option (Value → Sem Unit)} {Q : Value → Shared → Prop} {s : Shared} {n : Nat} {stp : Nat → Nat} {base : Heap} {y : Str} {ct : Addr} {vt : Value} {pt : PV}
    (hA : A.handled = Option.none) (hf : env.frame = some env.locals) (F : I.P s) (hI : I.Has w) (g : G w base [env] s.heap) (hns : ∃ m, s.heap.Ns env.locals m)
    (hct : cl.lookup y = some ct) (hcell : s.heap.IsCell ct (some vt)) (hvt : ∀ h, Rep h pt vt)
    (he : ∀ s, I.P s → ∀ (Q : Value → Shared → Prop) (E : Value → Shared → Prop), (∀ s' r t u v, Keeps s s' → IsRange s'.heap r 1 (1 + n) 1 t u v → Q (.ref r) s') → wpAny (model PF w) A (eval iter env) Q E s)
    (hclos : closureFor scope env = pure cl) (hcel : ∀ y ∈ scope.names, y.2 ≠ .cell) (hkind : scope.kind = .function)
    (hnames : ∀ y ∈ scope.names, y.2 = .local → scope.names.lookup y.1 = some .local) (hx : scope.names.lookup x = some .local) (hs : ∀ x, foldedSetIterable iter env x = pure x)
    (hn : n ≤ 1000)
    (hcall : ∀ s3 C k, k < n → (CI w s3 (compEnvC scope cl C env) [(x, .int (1 + (k : Nat)))] [(y, pt)]).P s3 → G w base [env] s3.heap → wpAny (model PF w) A (eval elt (compEnvC scope cl C env)) (fun v s' => ∃ s1, Keeps s3 s1 ∧ Rep s'.heap (.int (stp k : Nat)) v ∧ Aft [env] s1 s' ∧ G w base [env] s'.heap) No s3)
    (hQ : ∀ acc C s', Rep s'.heap (.list (stI stp n)) acc → Aft [env] s s' → G w base [env] s'.heap → s.heap.get? C = Option.none → (∃ m, s'.heap.Ns C m) → (∀ h', Heap.SameBut C s'.heap h' → Rep h' (.list (stI stp n)) acc) → compPost (model PF w) A No use Q acc C (.ok .next) s') :
    wpAny (model PF w) A (comprehension (.ListComp elt [⟨.Name x px, iter, [], 0⟩] scope pos) scope env (firstIterPos [⟨.Name x px, iter, [], 0⟩] pos) (newList []) (firstAsync [⟨.Name x px, iter, [], 0⟩]) (firstIter [⟨.Name x px, iter, [], 0⟩] env) use) Q No s := by
  have hfs : [env].filterMap (·.frame) = [env.locals] := by simp [hf]
  refine wpAny_comprehension_free (use := use) rfl hs hclos hkind hnames (he s F _ _ fun s1 r t1 t2 t3 k1 hr => ?_)
  have hsz : Builtin.Range.rangeSize 1 (1 + n) 1 = n := by
    unfold Builtin.Range.rangeSize
    rw [if_pos (by decide)]
    by_cases hn0 : (0 : Int) < n
    · rw [if_pos (by omega)]; omega
    · rw [if_neg (by omega)]; omega
  refine wpAny_pyIter_range hr ?_ ?_
  · unfold Builtin.Range.small
    rw [hsz]
    unfold Builtin.Range.rangeFitsLong
    simp; omega
  rw [hsz]
  have W := Walks.range (prog := PF) (w := w) (A := A) hA s1.heap.objs.size 1 1 n
  refine wpAny_newObj_type (wpAny_newFunctionEnv hcel (by intro y hy; simp at hy) (fun h2 hns2 hsb2 => ?_) hkind)
  dsimp only at hns2 hsb2 ⊢
  have hfree : ∀ a, s1.heap.objs.size ≤ a → s.heap.get? a = Option.none := fun a ha => by
    cases e : s.heap.get? a with
    | none => rfl
    | some o' => exact absurd (Heap.lt_size (kp_heap k1 _ _ e)) (Nat.not_lt.mpr ha)
  generalize hIa : s1.heap.objs.size = Ia at W hns2 hsb2 hfree ⊢
  generalize hH1 : s1.heap.push { cls := .type "range_iterator", data := .fields #[rawInt 1, rawInt n, rawInt 1] } = H1 at hns2 hsb2 ⊢
  generalize hDa : H1.objs.size = D at hns2 hsb2 ⊢
  generalize hH2 : H1.push { cls := .type "list", dict := none, data := .seq ([] : List Value).toArray } = H2 at hns2 hsb2 ⊢
  generalize hCa : H2.objs.size = C at hns2 hsb2 ⊢
  have nn : ∀ a : Nat, a + 1 ≠ a ∧ a + 1 + 1 ≠ a ∧ a + 1 + 1 ≠ a + 1 ∧ a ≤ a + 1 ∧ a ≤ a + 1 + 1 ∧ a < a + 1 + 1 := fun a => by omega
  have eD : D = Ia + 1 := by rw [← hDa, ← hH1, Heap.size_push, hIa]
  have eC : C = Ia + 1 + 1 := by rw [← hCa, ← hH2, Heap.size_push, hDa, eD]
  have hDI : D ≠ Ia := by rw [eD]; exact (nn Ia).1
  have hCI : C ≠ Ia := by rw [eC]; exact (nn Ia).2.1
  have hCD : C ≠ D := by rw [eC, eD]; exact (nn Ia).2.2.1
  have fI := hfree Ia (Nat.le_refl _)
  have fD := hfree D (by rw [eD]; exact (nn Ia).2.2.2.1)
  have fC := hfree C (by rw [eC]; exact (nn Ia).2.2.2.2.1)
  have hltC : ∀ b o, H2.get? b = some o → b ≠ C := fun b o e => by rw [← hCa]; exact Nat.ne_of_lt (Heap.lt_size e)
  have up : ∀ b o, H2.get? b = some o → h2.get? b = some o := fun b o e => hsb2.extBut b o (hltC b o e) (Heap.get?_push_of_some _ e)
  have u1 : ∀ b o, s1.heap.get? b = some o → H1.get? b = some o := fun b o e => hH1 ▸ Heap.get?_push_of_some _ e
  have u2 : ∀ b o, H1.get? b = some o → H2.get? b = some o := fun b o e => hH2 ▸ Heap.get?_push_of_some _ e
  have old : ∀ b o, s.heap.get? b = some o → h2.get? b = some o := fun b o e => up _ _ (u2 _ _ (u1 _ _ (kp_heap k1 _ _ e)))
  have hit0 : IsRangeIter h2 Ia (1 + ((0 : Nat) : Int) * 1) ((n : Int) - ((0 : Nat) : Int)) 1 := by
    have := up _ _ (u2 _ _ (show H1.get? Ia = _ from hH1 ▸ hIa ▸ Heap.get?_push_size s1.heap (o := { cls := .type "range_iterator", data := .fields #[rawInt 1, rawInt n, rawInt 1] }) rfl))
    simpa using this
  have hacc0 : h2.PlainList D #[] := ⟨0, up _ _ (show H2.get? D = _ from hH2 ▸ hDa ▸ Heap.get?_push_size H1 (o := { cls := .type "list", dict := none, data := .seq ([] : List Value).toArray }) rfl)⟩
  have hLC : ∀ b, s.heap.get? b = Option.none → b ≠ env.locals := fun b hb q => by
    obtain ⟨m, o, es, ep, e, _⟩ := hns
    rw [q, e] at hb; cases hb
  have hT : ∀ b, s.heap.get? b = Option.none → b ≠ 204 ∧ b ≠ 200 := fun b hb => by
    obtain ⟨⟨o, vs, file, tf, flags, tg, inF, text, tt, e, _⟩, ps, e2, _⟩ := g.tab
    exact ⟨fun q => (by rw [q, e] at hb; cases hb), fun q => (by rw [q, e2] at hb; cases hb)⟩
  have hfr : ∀ b, s.heap.get? b = Option.none → b ∉ [env].filterMap (·.frame) := fun b hb => by rw [hfs]; simpa using hLC b hb
  have loop : ∀ s3 : Shared, (∃ tk, s3 = { s1 with heap := h2, toks := tk }) → codeAny (model PF w) A (.compLoop (.ListComp elt [⟨.Name x px, iter, [], 0⟩] scope pos) 0 (.ref Ia) (.ref D) (compEnvC scope cl C env)) (compPost (model PF w) A No use Q (.ref D) C) s3 := by
    rintro s3 ⟨tk0, rfl⟩
    refine codeAny_compLoop_tests (fun k s' => ∃ h' tk m' ys j, s' = { s1 with heap := h', toks := tk } ∧ IsRangeIter h' Ia (1 + ((j : Nat) : Int) * 1) ((n : Int) - (j : Nat)) 1 ∧ h'.PlainList D ys ∧ h'.Ns C m' ∧ (∀ g, RepL g (stI stp j) ys.toList) ∧ j ≤ n ∧ k = n + 1 - j ∧ G w base [env] h' ∧ Af [env.locals] [200] s.heap h') ?_ (n + 1)
      ⟨h2, tk0, _, #[], 0, rfl, hit0, hacc0, hns2, fun g => by simp only [stI, List.range_zero, List.map_nil, RepL], Nat.zero_le _, rfl, g.keeps old, Af.of_kp old⟩
    rintro k s' ⟨h', tk, m', ys, j, rfl, hit, hacc, hn', hys, hj, rfl, g', a'⟩
    have gI : ∀ h1, (∀ b o, b ∉ [Ia] → h'.get? b = some o → h1.get? b = some o) → G w base [env] h1 ∧ Af [env.locals] [200] s.heap h1 := fun h1 hk => by
      refine ⟨g'.wr (c := Ia) (fun b o hb e => hk b o (by simpa using hb) e) (g.fresh fI) (hfr _ fI) (hT _ fI) fun o vs e d u t r => ?_, a'.step (gs := []) (y := [Ia]) (fun b o e hb => ⟨fun _ => hk b o hb e, o.slots, hk b o hb e⟩) (by simp) fun c hc => .inr (by simp only [List.mem_singleton] at hc; subst hc; exact fI)⟩
      have e2 := hit
      unfold IsRangeIter at e2
      rw [e] at e2; cases e2
      cases d
      simp [rawInt] at r
    by_cases hlt : j < n
    · refine W.item j _ _ _ hlt hit fun v h1 tk1 hPv hst1 hk1 => ?_
      obtain ⟨tv, rfl⟩ := hPv
      obtain ⟨g1, a1⟩ := gI h1 hk1
      have hacc1 : h1.PlainList D ys := hacc.at fun o e => hk1 _ o (by simpa using hDI) e
      refine wpAny_assign_Name (wpAny_storeName_local (lookup_relabel_local hx) (hn'.at' fun o e => hk1 _ o (by simpa using hCI) e) (fun h3 hn3 hs3 => ?_) (by simp [compEnvC, relabel, hkind]))
      have g3 := g1.store (L := C) (fun b o hb e => hs3.extBut b o hb e) ⟨_, hn'.at' fun o e => hk1 _ o (by simpa using hCI) e⟩ (g.fresh fC) (hfr _ fC)
      have a3 : Af [env.locals] [200] s.heap h3 := a1.step (gs := []) (y := [C]) (fun b o e hb => (have hbC : b ≠ C := (by simpa using hb); ⟨fun _ => hs3.extBut b o hbC e, o.slots, hs3.extBut b o hbC e⟩)) (by simp) fun c hc => .inr (by simp only [List.mem_singleton] at hc; subst hc; exact fC)
      have hacc3 : h3.PlainList D ys := hacc1.at fun o e => hs3.extBut _ o (Ne.symm hCD) e
      have hst3 : IsRangeIter h3 Ia (1 + ((j + 1 : Nat) : Int) * 1) ((n : Int) - ((j + 1 : Nat) : Int)) 1 := hs3.extBut _ _ (Ne.symm hCI) hst1
      refine wpAny_tests_nil ?_
      rw [if_pos rfl]
      have hcell3 : h3.IsCell ct (some vt) := by
        obtain ⟨o, e, d⟩ := hcell
        refine ⟨o, ((a3 ct o e ?_).1 ?_), d⟩
        · simp only [List.mem_singleton]
          intro q
          obtain ⟨_, ps, e2, _⟩ := g.tab
          rw [q, e2] at e; cases e; cases d
        · simp only [List.mem_singleton]
          intro q
          obtain ⟨m, o', es, ep, e2, d2, _⟩ := hns
          rw [q, e2] at e; cases e; rw [d] at d2; cases d2
      refine no_mono (hcall _ C j hlt ⟨g3.x, kp_refl _, ⟨_, hn3, fun z pv ez => ?_⟩, fun z pv ez => ?_⟩ g3) fun v s4 hv => ?_
      · simp only [List.lookup_cons, List.lookup_nil] at ez
        cases hb : z == x with
        | true => rw [hb] at ez; cases ez; refine ⟨_, by rw [if_pos (eq_of_beq hb)], ?_⟩; rw [Int.mul_one]; exact rep_int
        | false => rw [hb] at ez; cases ez
      · simp only [List.lookup_cons, List.lookup_nil] at ez
        cases hb : z == y with
        | true => rw [hb] at ez; cases ez; exact ⟨ct, vt, by rw [eq_of_beq hb]; exact hct, hcell3, hvt _⟩
        | false => rw [hb] at ez; cases ez
      obtain ⟨s5, k5, rv, ⟨a45, h4, tk4, rfl⟩, g4⟩ := hv
      rw [hfs] at a45
      have kk5 := kp_heap k5
      have keepF : ∀ b o, s.heap.get? b = Option.none → h3.get? b = some o → h4.get? b = some o := fun b o hb e => (a45 b o (kk5 _ _ e) (by simpa using (hT b hb).2)).1 (by simpa using hLC b hb)
      have a4 : Af [env.locals] [200] s.heap h4 := (a3.stepK kk5).trans a45
      simp only [Rep] at rv
      obtain ⟨tv2, rfl⟩ := rv
      have hysz : ys.size = j := by have := repL_len (hys h3); simpa [stI] using this
      refine wpAny_list_append_plain (hsz := by rw [hysz]; show _ ≤ 16777216; omega) (hacc3.at fun o e => keepF _ o fD e) fun h6 hl6 hs6 => ?_
      have g6 := g4.wr (c := D) (fun b o hb e => hs6.extBut b o hb e) (g.fresh fD) (hfr _ fD) (hT _ fD) fun o vs e d => by
        obtain ⟨n0, e0⟩ := hacc3
        have e9 := keepF _ _ fD e0
        have e' : h4.get? D = some o := e
        rw [e'] at e9; cases e9; cases d
      obtain ⟨hh5, tk5, rfl, _⟩ := k5
      refine ⟨n + 1 - (j + 1), by omega, h6, tk4, _, ys.push (.int (stp j : Nat) tv2), j + 1, rfl, hs6.extBut _ _ (Ne.symm hDI) (keepF _ _ fI hst3), hl6, (hn3.at' fun o e => keepF _ o fC e).sameBut hs6 hCD, fun gg => ?_, hlt, rfl, g6, a4.step (gs := []) (y := [D]) (fun b o e hb => ⟨fun _ => hs6.extBut b o (by simpa using hb) e, o.slots, hs6.extBut b o (by simpa using hb) e⟩) (by simp) fun c hc => .inr (by simp only [List.mem_singleton] at hc; subst hc; exact fD)⟩
      have e1 : stI stp (j + 1) = stI stp j ++ [.int (stp j : Nat)] := by unfold stI; rw [List.range_succ]; simp
      rw [e1, Array.toList_push]
      exact repL_append (hys gg) (by simp only [RepL]; exact ⟨_, [], rfl, rep_int, rfl⟩)
    · have hin : j = n := by omega
      subst hin
      refine W.done _ _ _ hit fun h1 tk1 hk1 => ?_
      obtain ⟨g1, a1⟩ := gI h1 hk1
      have hacc1 : h1.PlainList D ys := hacc.at fun o e => hk1 _ o (by simpa using hDI) e
      have main : ∀ h9, (∀ b o, b ≠ C → h1.get? b = some o → h9.get? b = some o) → Rep h9 (.list (stI stp j)) (.ref D) := fun h9 hx => by
        simp only [Rep]
        exact ⟨D, ys, rfl, hacc1.isList.at fun o e => hx _ o (Ne.symm hCD) e, hys _⟩
      obtain ⟨hh1, tkk, rfl, _⟩ := k1
      refine hQ (.ref D) C _ (main h1 fun b o _ e => e) ⟨by rw [hfs]; exact a1, h1, tk1, rfl⟩ g1 fC ⟨m', hn'.at' fun o e => hk1 _ o (by simpa using hCI) e⟩ fun h9 hs9 => main h9 fun b o hb e => hs9.extBut b o hb e
  exact codeAny_compStart_list (loop _ ⟨_, rfl⟩) (W.self 0 _ _ _ hit0 (loop _ ⟨_, rfl⟩))
end
end
section
section
variable {w : World} {A : Around} {env : Env} {I : Inv}
theorem EVN.sliceUp {value hi : Expr} {p3 p4 : Pos} {l : List PV} {n : Nat} (hv : EV w A env I value (.list l)) (hh : EV w A env I hi (.int (n : Nat))) (hsz : l.length ≤ sizeLine)
    (ht : ∀ o r, letTemporaryGo value o r = pure () := by intro _ _; rfl) :
    EVN w A env I (.Subscript value (.Slice Option.none (some hi) Option.none p3) p4) (.plist (l.take n)) := fun s F => by
  refine wpAny_Subscript_Slice slot_list_getitem.lookup (hv.use F fun v s₁ r k F₁ => ?_) ht
  simp only [Rep] at r
  obtain ⟨a, us, rfl, hl, rr⟩ := r
  refine wpAny_Slice (wpAny_pure (hh.use F₁ fun v2 s₂ r2 k2 F₂ => wpAny_pure ?_))
  simp only [Rep] at r2
  obtain ⟨t, rfl⟩ := r2
  have hl0 : s₂.heap.IsList a us := hl.at fun o e => kp_heap k2 _ _ e
  have hk1 : Keeps s₂ { s₂ with heap := s₂.heap.push { cls := .type "slice", data := .fields #[.none, .int (n : Nat) t, .none] } } := ⟨_, _, rfl, fun b o e => Heap.get?_push_of_some _ e⟩
  have hl1 := hl0.push { cls := .type "slice", data := .fields #[.none, .int (n : Nat) t, .none] }
  have hlen : us.size = l.length := by simpa using repL_len rr
  refine ⟨Heap.IsList.typeIs (s := { s₂ with heap := _ }) hl1, ?_⟩
  refine wpAny_getItem_list_slice hl1 (Heap.IsSliceOf.new ..) .none (.int (n : Nat) _) .none (by simp) ⟨⟨?_, kp_trans k (kp_trans k2 (kp_trans hk1 ⟨_, _, rfl, fun b o e => Heap.get?_push_of_some _ e⟩))⟩, fun b hb => ?_⟩ (by rw [hlen]; exact hsz)
  rotate_left
  · cases hb
    cases hq : s.heap.get? (s₂.heap.push { cls := .type "slice", data := .fields #[.none, .int (n : Nat) t, .none] }).objs.size with
    | none => rfl
    | some o => exact absurd (Heap.lt_size (Heap.get?_push_of_some _ (kp_heap k2 _ _ (kp_heap k _ _ hq)))) (Nat.lt_irrefl _)
  simp only [Rep]
  refine ⟨_, _, rfl, ⟨0, Heap.get?_push_size _ rfl⟩, ?_⟩
  have e : (slicePick us Option.none (some (n : Int)) Option.none).toList = (sliceRange 0 (min n l.length : Nat) 1).filterMap (us.toList[·]?) := by
    unfold slicePick
    have e1 : sliceBounds Option.none (some (n : Int)) Option.none us.size = (0, ((min n l.length : Nat) : Int), 1) := by
      unfold sliceBounds
      simp only [Option.getD_none]
      rw [if_pos (by decide), if_pos (by decide), if_neg (by omega)]
      congr 1
      rw [hlen]
      congr 1
      omega
    rw [e1]
    simp
  rw [e, show l.take n = l.take (min n l.length) by simp [List.take_eq_take_iff], ← take_places l (min n l.length) (Nat.min_le_right _ _)]
  exact repL_places (rr.keeps (fun b o e => Heap.get?_push_of_some _ (Heap.get?_push_of_some _ (kp_heap k2 _ _ e)))) _
noncomputable def sumI (ns : List Int) : Int := preSum (fun i => ns.getD i 0) ns.length
theorem EV.sum {x : Str} {p q : Pos} {e : Expr} {ns : List Int} (hA : A.handled = Option.none) (hn : EV w A env I (.Name x p) (.val (.builtin "sum"))) (he : EV w A env I e (.list (ns.map .int)))
    (h1 : eval (.Call (.Name x p) [e] [] q) env = (do callWith q (← eval (.Name x p) env) [] (backTo q (starEach [e] env)) (backToKw q (keywordEach [] env))) := by rfl)
    (h2 : starEach [e] env = (false, eval e env) :: starEach [] env := by rfl) (h3 : (backTo q (starEach [] env)).any (·.1) = false := by rfl) :
    EV w A env I (.Call (.Name x p) [e] [] q) (.int (sumI ns)) := fun s F =>
  Call_ (hn.use F fun v s' r k F' => by
    simp only [Rep] at r; subst r
    refine PyProof.Rows.callWith_builtin1 (args_cons (he.use F' fun v2 s2 r2 k2 F2 => args_nil ?_) h2) h2 h3
    simp only [Rep] at r2
    obtain ⟨a, us, rfl, hl, hr⟩ := r2
    have hal : a < s2.heap.objs.size := by obtain ⟨o, e, _⟩ := hl; exact Heap.lt_size e
    have hlen : us.size = ns.length := by have := repL_len hr; simpa using this
    refine call_sum_walkG (wpAny_pyIter_list hl ⟨s2.heap.objs.size, _, _, us.size, _, _, fun i => ns.getD i 0, rfl, Walks.list (A := A.in1) (show A.in1.handled = Option.none from hA) s2.heap.objs.size a (Nat.ne_of_lt hal) us, ⟨⟨_, Heap.get?_push_size _ rfl, rfl, rfl⟩, hl.push _⟩, ?_, ?_, ?_⟩)
    · intro b hb
      simp only [List.mem_cons, List.not_mem_nil, or_false] at hb
      show b < (s2.heap.push _).objs.size
      rw [Heap.size_push]
      rcases hb with rfl | rfl
      · exact Nat.lt_succ_self _
      · exact Nat.lt_succ_of_lt hal
    · intro i v hv
      have hi : i < ns.length := by rw [← hlen]; exact (Array.getElem?_eq_some_iff.mp hv).1
      obtain ⟨v', e', r'⟩ := repL_get hr i (.int ns[i]) (by rw [List.getElem?_map, List.getElem?_eq_getElem hi]; rfl)
      rw [Array.getElem?_toList, hv] at e'; cases e'
      simp only [Rep] at r'
      obtain ⟨t, rfl⟩ := r'
      exact ⟨t, by show _ = Value.int (ns.getD i 0) t; rw [List.getD_eq_getElem?_getD, List.getElem?_eq_getElem hi]; rfl⟩
    · intro h' tk t' hk
      rw [hlen]
      exact ⟨rep_int, kp_trans k (kp_trans k2 ⟨h', tk, rfl, fun b o e => hk b o (by intro hm; simp only [List.mem_singleton] at hm; subst hm; exact absurd (Heap.lt_size e) (Nat.lt_irrefl _)) (Heap.get?_push_of_some _ e)⟩)⟩) h1
theorem OpV.add_list {l m : List PV} (h : l.length + m.length ≤ sizeLine) : OpV w A .Add (.list l) (.list m) (.list (l ++ m)) := fun s va vb ra rb => by
  simp only [Rep] at ra rb
  obtain ⟨a, us, rfl, hl, hr⟩ := ra
  obtain ⟨b, vs, rfl, hm, hs⟩ := rb
  have e1 : us.size = l.length := by simpa using repL_len hr
  have e2 : vs.size = m.length := by simpa using repL_len hs
  obtain ⟨⟨cls, dd, data, sl⟩, ho, hc, n, hd⟩ := id hl
  obtain ⟨⟨cls2, dd2, data2, sl2⟩, ho2, hc2, n2, hd2⟩ := id hm
  simp only at hc hd hc2 hd2
  subst hc hd hc2 hd2
  refine concat_meets ⟨_, ho, rfl⟩ ⟨_, ho2, rfl⟩ noFill_list_add seq_list_add PySem.F.slot_list_add PySem.F.entry_list_add (PySem.F.args_list_add_2 _ _) (list_addW a b us vs n n2 dd dd2 sl sl2 (by rw [e1, e2]; exact h)) ⟨ho, ho2, ?_⟩
  refine ⟨?_, ⟨_, _, rfl, fun b o e => Heap.get?_push_of_some _ e⟩⟩
  simp only [Rep]
  refine ⟨_, us ++ vs, rfl, ⟨_, Heap.get?_push_size _ rfl, rfl, 0, rfl⟩, ?_⟩
  rw [Array.toList_append]
  exact repL_append (hr.keeps fun b o e => Heap.get?_push_of_some _ e) (hs.keeps fun b o e => Heap.get?_push_of_some _ e)
theorem CmpV.ne_strs_same {l : List Str} (hA : Lv 1 A) : CmpV w A .NotEq (.list (l.map .str)) (.list (l.map .str)) false := fun s va vb ra rb => by
  simp only [Rep] at ra rb
  obtain ⟨a, us, rfl, hl, hr⟩ := ra
  obtain ⟨b, vs, rfl, hm, hs⟩ := rb
  have e1 : us.size = l.length := by simpa using repL_len hr
  have e2 : vs.size = l.length := by simpa using repL_len hs
  refine SeqAt.RcNeAt.lists (e := fun _ => true) hl hm (e1.trans e2.symm) (by have := hA.2.2; show A.units < 9900; omega) (fun j h1 h2 => ?_) PF w _ _ ?_
  · have hj : j < l.length := by rw [← e1]; exact h1
    obtain ⟨v1, g1, r1⟩ := repL_get hr j (.str l[j]) (by rw [List.getElem?_map, List.getElem?_eq_getElem hj]; rfl)
    obtain ⟨v2, g2, r2⟩ := repL_get hs j (.str l[j]) (by rw [List.getElem?_map, List.getElem?_eq_getElem hj]; rfl)
    simp only [Rep] at r1 r2
    obtain ⟨t1, rfl⟩ := r1; obtain ⟨t2, rfl⟩ := r2
    have q1 : us[j] = .str l[j] t1 := by rw [Array.getElem?_toList, Array.getElem?_eq_getElem h1] at g1; exact Option.some.inj g1
    have q2 : vs[j] = .str l[j] t2 := by rw [Array.getElem?_toList, Array.getElem?_eq_getElem h2] at g2; exact Option.some.inj g2
    rw [q1, q2]
    have := (SeqRoads2.EqGives.str l[j] l[j] t1 t2).at A.in1 s
    rw [show (l[j].cps.toList == l[j].cps.toList) = true by simp] at this
    exact this
  · refine ⟨?_, kp_refl _⟩
    have : (!(List.range us.size).all fun _ => true) = false := by simp
    rw [this]; exact rep_bool
theorem CmpV.ne_ints_same {l : List Int} (hA : Lv 1 A) : CmpV w A .NotEq (.tup (l.map .int)) (.tup (l.map .int)) false := fun s va vb ra rb => by
  simp only [Rep] at ra rb
  obtain ⟨a, us, rfl, ⟨n1, hl⟩, hr⟩ := ra
  obtain ⟨b, vs, rfl, ⟨n2, hm⟩, hs⟩ := rb
  have e1 : us.size = l.length := by simpa using repL_len hr
  have e2 : vs.size = l.length := by simpa using repL_len hs
  refine SeqAt.RcNeAt.tuples (e := fun _ => true) (l := a) (b := b) ⟨_, hl, rfl, n1, rfl⟩ ⟨_, hm, rfl, n2, rfl⟩ (by have := hA.2.2; show A.units < 9900; omega) (fun j h1 h2 => ?_) PF w _ _ ?_
  · have hj : j < l.length := by rw [← e1]; exact h1
    obtain ⟨v1, g1, r1⟩ := repL_get hr j (.int l[j]) (by rw [List.getElem?_map, List.getElem?_eq_getElem hj]; rfl)
    obtain ⟨v2, g2, r2⟩ := repL_get hs j (.int l[j]) (by rw [List.getElem?_map, List.getElem?_eq_getElem hj]; rfl)
    simp only [Rep] at r1 r2
    obtain ⟨t1, rfl⟩ := r1; obtain ⟨t2, rfl⟩ := r2
    have q1 : us[j] = .int l[j] t1 := by rw [Array.getElem?_toList, Array.getElem?_eq_getElem h1] at g1; exact Option.some.inj g1
    have q2 : vs[j] = .int l[j] t2 := by rw [Array.getElem?_toList, Array.getElem?_eq_getElem h2] at g2; exact Option.some.inj g2
    rw [q1, q2]
    have := (MeetsSeq.EqGives.int l[j] l[j] t1 t2).at A.in1 s
    rw [show (l[j] == l[j]) = true by simp] at this
    exact this
  · refine ⟨?_, kp_refl _⟩
    have : (!((List.range (min us.size vs.size)).all (fun _ => true) && us.size == vs.size)) = false := by simp [e1, e2]
    rw [this]; exact rep_bool
end
end
section
section
variable {w : World} {A : Around} {env : Env} {I : Inv}
theorem EV.max_strs {x : Str} {p q : Pos} {e : Expr} {ls : List Str} (hA : Lv 2 A) (hn : EV w A env I (.Name x p) (.val (.builtin "max"))) (he : EV w A env I e (.list (ls.map .str))) (hpos : 0 < ls.length)
    (h1 : eval (.Call (.Name x p) [e] [] q) env = (do callWith q (← eval (.Name x p) env) [] (backTo q (starEach [e] env)) (backToKw q (keywordEach [] env))) := by rfl)
    (h2 : starEach [e] env = (false, eval e env) :: starEach [] env := by rfl) (h3 : (backTo q (starEach [] env)).any (·.1) = false := by rfl) :
    EV w A env I (.Call (.Name x p) [e] [] q) (.str (ls.getD (argBest (fun i j => gtS (ls.getD i default) (ls.getD j default)) (ls.length - 1)) default)) := fun s F =>
  Call_ (hn.use F fun v s' r k F' => by
    simp only [Rep] at r; subst r
    refine PyProof.Rows.callWith_builtin1 (args_cons (he.use F' fun v2 s2 r2 k2 F2 => args_nil ?_) h2) h2 h3
    simp only [Rep] at r2
    obtain ⟨a, us, rfl, hl, hr⟩ := r2
    have hal : a < s2.heap.objs.size := by obtain ⟨o, e, _⟩ := hl; exact Heap.lt_size e
    have hlen : us.size = ls.length := by have := repL_len hr; simpa using this
    have hget : ∀ (i : Nat) (v : Value), us[i]? = some v → ∃ t, v = Value.str (ls.getD i default) t := fun i v e => by
      have hi : i < ls.length := by rw [← hlen]; exact (Array.getElem?_eq_some_iff.mp e).1
      obtain ⟨v', e', r'⟩ := repL_get hr i (.str ls[i]) (by rw [List.getElem?_map, List.getElem?_eq_getElem hi]; rfl)
      rw [Array.getElem?_toList, e] at e'; cases e'
      simp only [Rep] at r'
      obtain ⟨t, rfl⟩ := r'
      exact ⟨t, by rw [List.getD_eq_getElem?_getD, List.getElem?_eq_getElem hi]; rfl⟩
    refine call_max_walk (wpAny_pyIter_list hl ⟨s2.heap.objs.size, _, _, us.size, _, _, fun i j => gtS (ls.getD i default) (ls.getD j default), rfl, Walks.list (A := A.in1) (show A.in1.handled = Option.none from hA.1) s2.heap.objs.size a (Nat.ne_of_lt hal) us, ⟨⟨_, Heap.get?_push_size _ rfl, rfl, rfl⟩, hl.push _⟩, ?_, by rw [hlen]; exact hpos, ?_, ?_⟩)
    · intro b hb
      simp only [List.mem_cons, List.not_mem_nil, or_false] at hb
      show b < (s2.heap.push _).objs.size
      rw [Heap.size_push]
      rcases hb with rfl | rfl
      · exact Nat.lt_succ_self _
      · exact Nat.lt_succ_of_lt hal
    · intro i j vi vj s5 Q5 E5 hi hj hq
      obtain ⟨t1, rfl⟩ := hget i vi hi
      obtain ⟨t2, rfl⟩ := hget j vj hj
      exact rc_str_Gt _ _ _ _ hq
    · intro v h' tk hP hk
      have kk : ∀ b o, s2.heap.get? b = some o → h'.get? b = some o := fun b o e => hk b o (by intro hm; simp only [List.mem_singleton] at hm; subst hm; exact absurd (Heap.lt_size e) (Nat.lt_irrefl _)) (Heap.get?_push_of_some _ e)
      obtain ⟨t, rfl⟩ := hget _ v hP
      rw [hlen]
      exact ⟨rep_str, kp_trans k (kp_trans k2 ⟨h', tk, rfl, kk⟩)⟩) h1
theorem EV.max_ints {x : Str} {p q : Pos} {e : Expr} {ls : List Int} (hA : Lv 2 A) (hn : EV w A env I (.Name x p) (.val (.builtin "max"))) (he : EV w A env I e (.list (ls.map .int))) (hpos : 0 < ls.length)
    (h1 : eval (.Call (.Name x p) [e] [] q) env = (do callWith q (← eval (.Name x p) env) [] (backTo q (starEach [e] env)) (backToKw q (keywordEach [] env))) := by rfl)
    (h2 : starEach [e] env = (false, eval e env) :: starEach [] env := by rfl) (h3 : (backTo q (starEach [] env)).any (·.1) = false := by rfl) :
    EV w A env I (.Call (.Name x p) [e] [] q) (.int (ls.getD (argBest (fun i j => decide (ls.getD i 0 > ls.getD j 0)) (ls.length - 1)) 0)) := fun s F =>
  Call_ (hn.use F fun v s' r k F' => by
    simp only [Rep] at r; subst r
    refine PyProof.Rows.callWith_builtin1 (args_cons (he.use F' fun v2 s2 r2 k2 F2 => args_nil ?_) h2) h2 h3
    simp only [Rep] at r2
    obtain ⟨a, us, rfl, hl, hr⟩ := r2
    have hal : a < s2.heap.objs.size := by obtain ⟨o, e, _⟩ := hl; exact Heap.lt_size e
    have hlen : us.size = ls.length := by have := repL_len hr; simpa using this
    have hget : ∀ (i : Nat) (v : Value), us[i]? = some v → ∃ t, v = Value.int (ls.getD i 0) t := fun i v e => by
      have hi : i < ls.length := by rw [← hlen]; exact (Array.getElem?_eq_some_iff.mp e).1
      obtain ⟨v', e', r'⟩ := repL_get hr i (.int ls[i]) (by rw [List.getElem?_map, List.getElem?_eq_getElem hi]; rfl)
      rw [Array.getElem?_toList, e] at e'; cases e'
      simp only [Rep] at r'
      obtain ⟨t, rfl⟩ := r'
      exact ⟨t, by rw [List.getD_eq_getElem?_getD, List.getElem?_eq_getElem hi]; rfl⟩
    refine call_max_walk (wpAny_pyIter_list hl ⟨s2.heap.objs.size, _, _, us.size, _, _, _, rfl, Walks.list (A := A.in1) (show A.in1.handled = Option.none from hA.1) s2.heap.objs.size a (Nat.ne_of_lt hal) us, ⟨⟨_, Heap.get?_push_size _ rfl, rfl, rfl⟩, hl.push _⟩, ?_, by rw [hlen]; exact hpos, CmpOf.ints_gt (fun i => ls.getD i 0) hget, ?_⟩)
    · intro b hb
      simp only [List.mem_cons, List.not_mem_nil, or_false] at hb
      show b < (s2.heap.push _).objs.size
      rw [Heap.size_push]
      rcases hb with rfl | rfl
      · exact Nat.lt_succ_self _
      · exact Nat.lt_succ_of_lt hal
    · intro v h' tk hP hk
      have kk : ∀ b o, s2.heap.get? b = some o → h'.get? b = some o := fun b o e => hk b o (by intro hm; simp only [List.mem_singleton] at hm; subst hm; exact absurd (Heap.lt_size e) (Nat.lt_irrefl _)) (Heap.get?_push_of_some _ e)
      obtain ⟨t, rfl⟩ := hget _ v hP
      rw [hlen]
      exact ⟨rep_int, kp_trans k (kp_trans k2 ⟨h', tk, rfl, kk⟩)⟩) h1
noncomputable def isS (x : Str) : Value → Bool | .str y _ => y.cps.toList == x.cps.toList | _ => false
theorem CallV.index_str {l : List Str} {x : Str} {j : Nat} (hj : l[j]? = some x) (hno : ∀ i, i < j → ∀ y, l[i]? = some y → y.cps.toList ≠ x.cps.toList) (hsz : l.length ≤ 1000) :
    CallV w A "list.index" [.list (l.map .str), .str x] (.int (j : Nat)) := fun s vs r => by
  simp only [RepL, Rep] at r
  obtain ⟨v, vs', rfl, ⟨a, us, rfl, hl, hr⟩, v2, vs2, rfl, ⟨t, rfl⟩, rfl⟩ := r
  have hlen : us.size = l.length := by have := repL_len hr; simpa using this
  have hjl : j < l.length := (List.getElem?_eq_some_iff.mp hj).1
  have hget : ∀ (i : Nat) (hi : i < us.size), ∃ y t, l[i]? = some y ∧ us[i] = Value.str y t := fun i hi => by
    have hi' : i < l.length := by rw [← hlen]; exact hi
    obtain ⟨v', e', r'⟩ := repL_get hr i (.str l[i]) (by rw [List.getElem?_map, List.getElem?_eq_getElem hi']; rfl)
    rw [Array.getElem?_toList, Array.getElem?_eq_getElem hi] at e'; cases e'
    simp only [Rep] at r'
    obtain ⟨t, e⟩ := r'
    exact ⟨_, t, List.getElem?_eq_getElem hi', e⟩
  obtain ⟨⟨cls, dd, data, sl⟩, ho, hc, n, hd⟩ := id hl
  simp only at hc hd
  subst hc hd
  refine call_meets PySem.F.slot_list_index ⟨_, ho, rfl⟩ PySem.F.entry_list_index (PySem.F.args_list_index_2 _ _) (SeqAt.list_indexAt a us n dd sl (.str x t) (isS x) j (by rw [hlen]; exact hjl) (by omega) ?_ ?_) ⟨ho, fun y hy => ?_, ⟨rep_int, kp_toks _ _⟩⟩
  · obtain ⟨y, u, e1, e2⟩ := hget j (by rw [hlen]; exact hjl)
    rw [hj] at e1; cases e1
    rw [e2]; simp [isS]
  · intro i hi hij
    obtain ⟨y, u, e1, e2⟩ := hget i hi
    rw [e2]
    exact beq_eq_false_iff_ne.mpr (hno i hij y e1)
  · obtain ⟨i, hi, rfl⟩ := Array.getElem_of_mem hy
    obtain ⟨y, u, e1, e2⟩ := hget i hi
    rw [e2]
    exact (SeqRoads2.EqGives.str y x u t).at _ _
theorem EV.and2 {e1 e2 : Expr} {pos : Pos} {b c : Bool} (h1 : EV w A env I e1 (.bool b)) (h2 : b = true → EV w A env I e2 (.bool c)) : EV w A env I (.BoolOp .And [e1, e2] pos) (.bool (b && c)) := fun s F =>
  BoolOp_and (h1.use F fun v s1 r k F1 => by
    simp only [Rep] at r; subst r
    refine wpAny_truthy_bool ?_
    cases b with
    | false => exact ⟨rep_bool, k⟩
    | true => rw [if_pos rfl]; exact BoolOp_one (no_mono (h2 rfl s1 F1) fun v s2 x => ⟨x.1, kp_trans k x.2⟩))
end
section
variable {w : World} {A : Around} {env : Env} {s0 : Shared} {m cm : List (Str × PV)} {Z : Heap → Prop} {hz : Stable env Z} {R : Flow → Shared → Prop} {ss : List Stmt}
/-- `x, y = pair` -/
theorem SX.unpack2 {x y : Str} {px py pt pos : Pos} {kk : Nat} {e : Expr} {p q : PV} (hA : A.handled = Option.none) (he : EV w A env (FI w s0 env m cm Z hz) e (.tup [p, q])) (hfl : Flat p = true ∧ Flat q = true)
    (hl : env.kindOf x = some .local) (hl2 : env.kindOf y = some .local) (hk : env.scope.kind = .function)
    (hs : swapsWithSole [.Tuple [.Name x px, .Name y py] kk pt] e pos.line env = pure false) (hw : swappedStores [.Tuple [.Name x px, .Name y py] kk pt] e env = pure Option.none)
    (ha : assignEach [.Name x px, .Name y py] env = [(false, PySem.assign (.Name x px) env), (false, PySem.assign (.Name y py) env)])
    (hn : SX w A env (FI w s0 env ((y, q) :: (x, p) :: m) cm Z hz) ss R) :
    SX w A env (FI w s0 env m cm Z hz) (.Assign [.Tuple [.Name x px, .Name y py] kk pt] e pos :: ss) R := fun s F => by
  refine wpAny_execs_cons (Assign_Tuple (he.use F fun v s' r k F' => ?_) hs hw)
  simp only [Rep] at r
  obtain ⟨a, us, rfl, ⟨n, ht⟩, hr⟩ := r
  simp only [RepL] at hr
  obtain ⟨v1, vs1, e1, r1, v2, vs2, e2, r2, e3⟩ := hr
  subst e2 e3
  have eu : us = #[v1, v2] := by rw [← Array.toArray_toList (xs := us), e1]
  subst eu
  refine wpAny_assign_Tuple hA ⟨_, ht, rfl, n, rfl⟩ (by rw [ha]; rfl) (by rw [ha]; rfl) fun h3 hx3 => ?_
  have k3 : Keeps s' { s' with heap := h3 } := ⟨h3, s'.toks, rfl, fun b o e => hx3 b o (Nat.ne_of_lt (Heap.lt_size e)) e⟩
  have F4 := (FI w s0 env m cm Z hz).mono _ _ F' k3
  rw [ha]
  show wpAny _ A (do holding [v2] (PySem.assign (.Name x px) env v1); do holding [] (PySem.assign (.Name y py) env v2); pure ()) _ _ _
  refine wpAny_bind (wpAny_holding (assign_Name (SX.store F4 hz (r1.flat hfl.1) hl hk fun s5 F5 _ => ?_)))
  refine wpAny_bind (wpAny_holding (assign_Name (SX.store F5 hz (r2.flat hfl.2) hl2 hk fun s6 F6 _ => wpAny_pure ?_)))
  exact hn s6 F6
end
end
section
section
variable {w : World} {A : Around} {env : Env}
theorem compG_I {I : Inv} {elt iter : Expr} {x : Str} {px pos : Pos} {scope : Scope} {cl : List (Str × Addr)} {ns : List Int} {g : Int → PV} (hg : ∀ n, Flat (g n) = true) (fm : List (Str × PV)) (hit : ItV w A env I [] iter (ns.map .int)) (hI : I.Has w)
    (hfm : ∀ s, I.P s → ∀ x pv, fm.lookup x = some pv → ∃ c v, cl.lookup x = some c ∧ s.heap.IsCell c (some v) ∧ Rep s.heap pv v)
    (hclos : closureFor scope env = pure cl) (hcell : ∀ y ∈ scope.names, y.2 ≠ .cell) (hkind : scope.kind = .function)
    (hnames : ∀ y ∈ scope.names, y.2 = .local → scope.names.lookup y.1 = some .local) (hx : scope.names.lookup x = some .local)
    (hsz : ns.length ≤ sizeLine)
    (helt : ∀ s C n, n ∈ ns → EV w A (compEnvC scope cl C env) (CI w s (compEnvC scope cl C env) [(x, .int n)] fm) elt (g n))
    (hs : ∀ x, foldedSetIterable iter env x = pure x) :
    CompG w A env I elt x px iter [] scope pos (ns.map g) := fun s F use Q hQ => by
  refine wpAny_comprehension_free (use := use) rfl hs hclos hkind hnames (hit s F _ _ fun s' it fp wr P St k ok => ?_)
  have hlen : (ns.map PV.int).length = ns.length := by simp
  have hval : ∀ i v, P i v → ∃ n t, ns[i]? = some n ∧ v = .int n t := fun i v hv => by
    obtain ⟨p, hp, rp⟩ := ok.vals i v hv
    rw [List.getElem?_map] at hp
    obtain ⟨n, hn, rfl⟩ := Option.map_eq_some_iff.mp hp
    simp only [Rep] at rp
    obtain ⟨t, rfl⟩ := rp
    exact ⟨n, t, hn, rfl⟩
  refine comp_block_walkC (RR := fun acc C => compPost (model PF w) A No use Q acc C) ok.walks (by rw [hlen]; exact hsz) (fun _ => true) (fun v y => ∃ n t h', v = .int n t ∧ Rep h' (g n) y) hcell hkind hx ok.st (fun b hb => by obtain ⟨o, e, _⟩ := ok.ex 0 _ ok.st b hb; exact Heap.lt_size e) ⟨?_, ?_⟩ ?_
  · intro C i v s₃ m₃ E' _ _ _ _ _ _
    exact wpAny_pure ⟨rfl, kp_refl _⟩
  · intro C i v s₃ m₃ E' hC hv _ hn hm hk _
    obtain ⟨n, t, hn', rfl⟩ := hval i v hv
    exact no_mono (helt { s₃ with heap := s.heap } C n (List.mem_of_getElem? hn') s₃ (cip_of hI F (kp_heap k) ok.free hk hn hm rep_int hfm)) fun y s₄ z => ⟨⟨n, t, _, rfl, z.1⟩, z.2⟩
  · intro D C h' tk m' ys vs hD hC hDC hn hl hpl hlen' hP hF hk
    have hold : ∀ b o, s.heap.get? b = some o → h'.get? b = some o ∧ b ≠ C := fun b o e => by
      have e' := kp_heap k b o e
      exact ⟨hk b o (fun hm => by rw [ok.free b hm] at e; cases e) e', fun q => by rw [q, hC] at e'; cases e'⟩
    have hC0 : s.heap.get? C = Option.none := by
      cases q : s.heap.get? C with
      | none => rfl
      | some o => exact absurd rfl (hold C o q).2
    have : vs.filter (fun _ => true) = vs := by simp
    rw [this] at hF
    have main : ∀ h2, (∀ b o, b ≠ C → h'.get? b = some o → h2.get? b = some o) → Rep h2 (.list (ns.map g)) (.ref D) := fun h2 hx => by
      simp only [Rep]
      exact ⟨D, ys, rfl, hl.at fun o e => hx _ o hDC e, paired_rep hg ns hF (fun j v e => hval j v (hP j v e)) (by rw [hlen', hlen])⟩
    obtain ⟨h2, tk2, rfl, k2⟩ := k
    exact hQ (.ref D) C _ (main h' fun b o _ e => e) ⟨h', tk, rfl, fun b o e => (hold b o e).1⟩ hC0 ⟨m', hn⟩ fun h3 hs3 => main h3 fun b o hb e => hs3.extBut b o hb e
/-- the frame of the law, on a base, behind code that may catch -/
theorem FIP.rebC {s0 s : Shared} {m cm : List (Str × PV)} {base h' : Heap} {tk : Nat} {Z Z' : Heap → Prop} (F : FIP w s0 env m cm Z s) (X : XAt w base) (st : base.StaysIn h') (hup : base.objs.size ≤ env.locals)
    (hloc : ∀ o, s.heap.get? env.locals = some o → ∃ sl, h'.get? env.locals = some { o with slots := sl })
    (kb : ∀ b o, b ≠ env.locals → (∀ vs, o.data ≠ .fields vs) → s.heap.get? b = some o → h'.get? b = some o) (hz : Z' h') : FIP w { s with heap := base } env m cm Z' { s with heap := h', toks := tk } := by
  have ks : ∀ b o, (∀ vs n, o.data = .seq vs n → s.heap.get? b = some o → h'.get? b = some o) := fun b o vs n d e => kb b o (by
    rintro rfl
    obtain ⟨mv, ⟨o', es, ep, e', d', _⟩, _⟩ := F.loc
    rw [e] at e'; cases e'; rw [d] at d'; cases d') (fun vs q => by rw [d] at q; cases q) e
  refine ⟨X, ⟨h', tk, rfl, st⟩, hup, ?_, ?_, hz⟩
  · obtain ⟨mv, ⟨o, es, ep, e, d, q⟩, r⟩ := F.loc
    obtain ⟨sl, e'⟩ := hloc o e
    exact ⟨mv, ⟨_, es, ep, e', d, q⟩, fun x pv e => let ⟨v, a, b⟩ := r x pv e; ⟨v, a, b.keepsBut ks⟩⟩
  · obtain ⟨cv, Y, rc⟩ := F.cel
    refine ⟨cv, ⟨fun n c e => ?_, Y.apart, Y.above⟩, fun x pv e => let ⟨v, a, b⟩ := rc x pv e; ⟨v, a, b.keepsBut ks⟩⟩
    obtain ⟨o, e', d⟩ := Y.cell n c e
    exact ⟨o, kb _ _ (by
      rintro rfl
      obtain ⟨mv, ⟨o', es, ep, e2, d', _⟩, _⟩ := F.loc
      rw [e'] at e2; cases e2; rw [d] at d'; cases d') (fun vs q => by rw [d] at q; cases q) e', d⟩
end
end
section
section
variable {w : World} {A : Around} {env : Env} {s0 : Shared} {m cm : List (Str × PV)} {hz : Stable env fun _ => True} {R : Flow → Shared → Prop} {ss : List Stmt}
/-- a for loop whose body writes cells -/
theorem SX.for1C {x : Str} {px pos : Pos} {iter : Expr} {body : List Stmt} {items : List PV} (M CM : Nat → List (Str × PV)) (hm : M 0 = m) (hcm : CM 0 = cm) (hnd : (env.cells.map (·.1)).Nodup)
    (hit : ItV w A env (FI w s0 env m cm (fun _ => True) hz) [] iter items) (hfl : ∀ p ∈ items, Flat p = true) (hl : env.kindOf x = some .local) (hk : env.scope.kind = .function)
    (turn : ∀ i p Zb (hzb : Stable env Zb), items[i]? = some p → SX w A env (FI w s0 env ((x, p) :: M i) (CM i) Zb hzb) body (fun f s' => f = .next ∧ FIP w s0 env (M (i + 1)) (CM (i + 1)) Zb s'))
    (hn : SX w A env (FI w s0 env (M items.length) (CM items.length) (fun _ => True) hz) ss R)
    (hs : ∀ x, foldedSetIterable iter env x = pure x) :
    SX w A env (FI w s0 env m cm (fun _ => True) hz) (.For (.Name x px) iter body [] pos :: ss) R := fun s F => by
  subst hm hcm
  refine wpAny_execs_cons (wpAny_For (hit s F _ _ fun s' it fp wr P St k ok => ?_) hs)
  have F' := (FI w s0 env (M 0) (CM 0) (fun _ => True) hz).mono _ _ F k
  have hfo : ∀ b ∈ fp, ¬ Own env b := fun b hb => by
    obtain ⟨o, e, hs⟩ := ok.ex 0 _ ok.st b hb
    exact own_get F' e hs hnd
  have hst : ∀ i, Stable env (St i) := fun i => ⟨fp, fun b hb => ⟨hfo b hb, by simp⟩, fun h st b hb => let ⟨o, e, _⟩ := ok.ex i h st b hb; ⟨o, e⟩, fun h h' st kk => ok.walks.frame i h h' st fun b hb o e => (kk b hb).trans e⟩
  refine codeAny_forLoop_any (fun n s1 => ∃ i, i ≤ items.length ∧ n = items.length + 1 - i ∧ FIP w s0 env (M i) (CM i) (fun h => St i h) s1) ?_ (items.length + 1) ⟨0, Nat.zero_le _, rfl, FIP.restab F' ok.st⟩
  rintro n s1 ⟨i, hi, rfl, F1⟩
  have hg : KpH s0.heap s.heap := kp_heap (FIP.kp F)
  have hwo : ∀ b ∈ wr, ∀ o, s1.heap.get? b = some o → (∀ es ep, o.data ≠ .dict es ep) ∧ (∀ v, o.data ≠ .cell v) ∧ (∀ vs n, o.data ≠ .seq vs n) := fun b hb o e => by
    obtain ⟨o', e', h1, h2⟩ := ok.ex i _ (FIP.z F1) b (ok.walks.sub b hb)
    rw [e] at e'; cases e'
    exact ⟨h1, h2, ok.nseq i _ (FIP.z F1) b hb o e⟩
  by_cases hlt : i < items.length
  · refine ok.walks.item i s1 _ _ hlt (FIP.z F1) fun v h' tk hP hSt hkk => ?_
    obtain ⟨p, hp, rp⟩ := ok.vals i v hP
    have F2 : FIP w s0 env (M i) (CM i) (fun h => St (i + 1) h) { s1 with heap := h', toks := tk } := FIP.next F1 hnd hg ok.free hwo hkk hSt
    refine wpAny_pure (wpAny_assign_Name (SX.store F2 (hst (i + 1)) (rp.flat (hfl p (List.mem_of_getElem? hp))) hl hk fun s3 F3 _ => ?_))
    refine no_mono (turn i p _ (hst (i + 1)) hp s3 F3) fun f s4 h4 => ?_
    obtain ⟨rfl, F4⟩ := h4
    exact ⟨items.length + 1 - (i + 1), by omega, i + 1, hlt, rfl, F4⟩
  · have hin : i = items.length := by omega
    subst hin
    refine ok.walks.done s1 _ _ (FIP.z F1) fun h' tk hkk => ?_
    have F2 : FIP w s0 env (M items.length) (CM items.length) (fun _ => True) { s1 with heap := h', toks := tk } := FIP.next F1 hnd hg ok.free hwo hkk trivial
    refine wpAny_execs_nil ?_
    exact no_mono (hn _ F2) fun f s3 h3 => by cases f <;> exact h3
end
theorem or_xor_and : ∀ (n a b : Nat), a < 2 ^ n → (a ||| b) = (a ^^^ b) + (a &&& b)
  | 0, a, b, h => by
    have : a = 0 := by simpa using h
    subst this; simp
  | n + 1, a, b, h => by
    have ih := or_xor_and n (a / 2) (b / 2) (by rw [Nat.pow_succ] at h; omega)
    have o1 : (a ||| b) / 2 = a / 2 ||| b / 2 := by
      have := Nat.shiftRight_or_distrib (a := a) (b := b) (i := 1); simpa [Nat.shiftRight_eq_div_pow] using this
    have o2 : (a ^^^ b) / 2 = a / 2 ^^^ b / 2 := by
      have := Nat.shiftRight_xor_distrib (a := a) (b := b) (i := 1); simpa [Nat.shiftRight_eq_div_pow] using this
    have o3 : (a &&& b) / 2 = a / 2 &&& b / 2 := by
      have := Nat.shiftRight_and_distrib (a := a) (b := b) (i := 1); simpa [Nat.shiftRight_eq_div_pow] using this
    have m1 : (a ||| b) % 2 = (a % 2) ||| (b % 2) := Nat.or_mod_two_pow (n := 1)
    have m2 : (a ^^^ b) % 2 = (a % 2) ^^^ (b % 2) := Nat.xor_mod_two_pow (n := 1)
    have m3 : (a &&& b) % 2 = (a % 2) &&& (b % 2) := Nat.and_mod_two_pow (n := 1)
    have key : (a % 2 ||| b % 2) = (a % 2 ^^^ b % 2) + (a % 2 &&& b % 2) := by
      have ha : a % 2 = 0 ∨ a % 2 = 1 := by omega
      have hb : b % 2 = 0 ∨ b % 2 = 1 := by omega
      rcases ha with ha | ha <;> rcases hb with hb | hb <;> rw [ha, hb] <;> decide
    rw [← o1, ← o2, ← o3] at ih
    rw [← m1, ← m2, ← m3] at key
    omega
theorem bitXor_nat (a b : Nat) : Builtin.bitXor (a : Int) (b : Int) = ((a ^^^ b : Nat) : Int) := by
  have h := or_xor_and a a b Nat.lt_two_pow_self
  have e1 : Builtin.bitOr (a : Int) (b : Int) = ((a ||| b : Nat) : Int) := by
    unfold Builtin.bitOr Builtin.bitAnd Builtin.bitNot
    rw [decide_eq_false (by omega : ¬ (0 : Int) ≤ -(a : Int) - 1), decide_eq_false (by omega : ¬ (0 : Int) ≤ -(b : Int) - 1)]
    simp
    rw [show (-(-(a : Int) - 1)).toNat - 1 = a by omega, show (-(-(b : Int) - 1)).toNat - 1 = b by omega]
    omega
  unfold Builtin.bitXor
  rw [e1, bitAnd_nat, h]
  push_cast
  omega
theorem xor_low {a b : Nat} (ha : a < 53248) (hb : b < 4096) : a ^^^ b < 53248 ∧ (a ^^^ b) / 4096 = a / 4096 := by
  have h1 : (a ^^^ b) / 4096 = a / 4096 := by
    rw [show (4096 : Nat) = 2 ^ 12 from rfl, ← Nat.shiftRight_eq_div_pow, Nat.shiftRight_xor_distrib, Nat.shiftRight_eq_div_pow b, Nat.div_eq_of_lt (by simpa using hb), Nat.xor_zero, Nat.shiftRight_eq_div_pow]
  refine ⟨?_, h1⟩
  omega
end
section
/-- the modes of a script -/
noncomputable def hdI (ns : List Int) : Int := sumI (ns.take 63)
noncomputable def kdN (ns : List Int) : Nat := ((hdI ns + 8).fmod 13).toNat
noncomputable def loN (ns : List Int) : Nat := ((hdI ns).fdiv 7 + 2490 : Int).fmod 4096 |>.toNat
noncomputable def m0N (ns : List Int) : Nat := kdN ns * 4096 + loN ns
noncomputable def b1N (ns : List Int) : Nat := ((hdI ns + 6).fmod 12).toNat
noncomputable def b2N (ns : List Int) : Nat := (((b1N ns : Int) + 1 + (hdI ns).fmod 11).fmod 12).toNat
noncomputable def m1N (ns : List Int) : Nat := m0N ns ^^^ 2 ^ b1N ns
noncomputable def m2N (ns : List Int) : Nat := m0N ns ^^^ 2 ^ b2N ns
noncomputable def msN (ns : List Int) : List Nat := [m0N ns, m1N ns, m2N ns]
noncomputable def rowN (ns : List Int) : List Nat := [0, 1, 0, 0, 1, 0, 0] ++ (ns.take 5).map fun x => (x.fmod 3).toNat
theorem fm_nn (a : Int) (b : Nat) (hb : 0 < b) : 0 ≤ a.fmod b ∧ a.fmod b < b := by
  rw [Int.fmod_eq_emod_of_nonneg _ (by omega)]
  exact ⟨Int.emod_nonneg _ (by omega), Int.emod_lt_of_pos _ (by omega)⟩
theorem kd_lt (ns : List Int) : kdN ns < 13 ∧ ((kdN ns : Nat) : Int) = (hdI ns + 8).fmod 13 := by
  have := fm_nn (hdI ns + 8) 13 (by decide)
  unfold kdN
  exact ⟨by have := this.2; push_cast at this; omega, by have := this.1; push_cast at this; omega⟩
theorem lo_lt (ns : List Int) : loN ns < 4096 ∧ ((loN ns : Nat) : Int) = ((hdI ns).fdiv 7 + 2490).fmod 4096 := by
  have := fm_nn ((hdI ns).fdiv 7 + 2490) 4096 (by decide)
  unfold loN
  exact ⟨by have := this.2; push_cast at this; omega, by have := this.1; push_cast at this; omega⟩
theorem b1_lt (ns : List Int) : b1N ns < 12 ∧ ((b1N ns : Nat) : Int) = (hdI ns + 6).fmod 12 := by
  have := fm_nn (hdI ns + 6) 12 (by decide)
  unfold b1N
  exact ⟨by have := this.2; push_cast at this; omega, by have := this.1; push_cast at this; omega⟩
theorem b2_lt (ns : List Int) : b2N ns < 12 ∧ ((b2N ns : Nat) : Int) = ((b1N ns : Int) + 1 + (hdI ns).fmod 11).fmod 12 := by
  have := fm_nn ((b1N ns : Int) + 1 + (hdI ns).fmod 11) 12 (by decide)
  unfold b2N
  exact ⟨by have := this.2; push_cast at this; omega, by have := this.1; push_cast at this; omega⟩
theorem m0_lt (ns : List Int) : m0N ns < 53248 ∧ m0N ns / 4096 = kdN ns ∧ m0N ns % 4096 = loN ns := by
  have h1 := (kd_lt ns).1
  have h2 := (lo_lt ns).1
  unfold m0N
  omega
theorem p2_lt {b : Nat} (h : b < 12) : 2 ^ b < 4096 := by
  have : ∀ b < 12, 2 ^ b < 4096 := by decide
  exact this b h
theorem ms_lt (ns : List Int) : ∀ m ∈ msN ns, m < 53248 := fun m hm => by
  simp only [msN, List.mem_cons, List.not_mem_nil, or_false] at hm
  rcases hm with rfl | rfl | rfl
  · exact (m0_lt ns).1
  · exact (xor_low (m0_lt ns).1 (p2_lt (b1_lt ns).1)).1
  · exact (xor_low (m0_lt ns).1 (p2_lt (b2_lt ns).1)).1
theorem row_lt (ns : List Int) : ∀ k ∈ rowN ns, k < 3 := fun k hk => by
  unfold rowN at hk
  rcases List.mem_append.mp hk with h | h
  · simp only [List.mem_cons, List.not_mem_nil, or_false] at h; omega
  · obtain ⟨x, _, rfl⟩ := List.mem_map.mp h
    have := fm_nn x 3 (by decide)
    have := this.2; push_cast at this; omega
theorem row_len (ns : List Int) : 7 ≤ (rowN ns).length ∧ (rowN ns).length ≤ 12 := by
  unfold rowN; simp; omega
theorem b_sum {P : Params} : nsFind (esMain P) (Str.ofString "sum") = none ∧ nsFind (esBui P) (Str.ofString "sum") = some (.builtin "sum") := ⟨by kernel_rfl, by kernel_rfl⟩
theorem b_ord' {P : Params} : nsFind (esMain P) (Str.ofString "ord") = none ∧ nsFind (esBui P) (Str.ofString "ord") = some (.builtin "ord") := ⟨by kernel_rfl, by kernel_rfl⟩
theorem g_filemode {P : Params} : nsFind (esMain P) (Str.ofString "filemode") = some (.ref 68) := by kernel_rfl
theorem fn_filemode (w : World) : Fn w 68 := .mk (Mine.suf.o_63 w.params) (by kernel_rfl) rfl
theorem g_signs {P : Params} : nsFind (esMain P) (Str.ofString "_law_signs") = some (.ref 219) := by kernel_rfl
theorem fn_signs (w : World) : Fn w 219 := .mk (Mine.suf.o_224 w.params) (by kernel_rfl) rfl
theorem g_figures {P : Params} : nsFind (esMain P) (Str.ofString "_law_figures") = some (.ref 224) := by kernel_rfl
theorem fn_figures (w : World) : Fn w 224 := .mk (Mine.suf.o_229 w.params) (by kernel_rfl) rfl
theorem g_phc {P : Params} : nsFind (esMain P) (Str.ofString "parse_hex_char") = some (.ref 198) := by kernel_rfl
theorem fn_phc (w : World) : Fn w 198 := .mk (Mine.suf.o_203 w.params) (by kernel_rfl) rfl
theorem g_ends {P : Params} : nsFind (esMain P) (Str.ofString "_law_ends") = some (.ref 231) := by kernel_rfl
theorem fn_ends (w : World) : Fn w 231 := .mk (Mine.suf.o_239 w.params) (by kernel_rfl) rfl
theorem g_across {P : Params} : nsFind (esMain P) (Str.ofString "_law_across") = some (.ref 252) := by kernel_rfl
theorem fn_across (w : World) : Fn w 252 := .mk (Mine.suf.o_260 w.params) (by kernel_rfl) rfl
theorem g_period {P : Params} : nsFind (esMain P) (Str.ofString "_law_period") = some (.ref 238) := by kernel_rfl
theorem fn_period (w : World) : Fn w 238 := .mk (Mine.suf.o_246 w.params) (by kernel_rfl) rfl
end
section
noncomputable def msI (ns : List Int) : List Int := (msN ns).map fun (m : Nat) => (Int.ofNat m)
noncomputable def msAt (ns : List Int) (k : Nat) : Nat := (msN ns).getD k 0
noncomputable def nmS (ns : List Int) : List Str := (msN ns).map fun m => S (fmL m)
noncomputable def tuS (ns : List Int) : List Str := (msN ns).map fun m => S (fmL (m ^^^ 511))
theorem ms_at {ns : List Int} {k : Nat} (hk : k < 3) : (msI ns)[k]? = some (msAt ns k : Int) ∧ msAt ns k < 53248 := by
  have h3 : k < (msN ns).length := hk
  have e : msAt ns k = (msN ns)[k] := by unfold msAt; rw [List.getD_eq_getElem?_getD, List.getElem?_eq_getElem h3]; rfl
  refine ⟨?_, ?_⟩
  · unfold msI; rw [List.getElem?_map, List.getElem?_eq_getElem h3, e]; rfl
  · rw [e]; exact ms_lt ns _ (List.getElem_mem h3)
theorem row_pv (ns : List Int) : PVn (rowN ns) = ([0, 1, 0, 0, 1, 0, 0].map PV.int) ++ (ns.take 5).map fun x => PV.int (x.fmod 3) := by
  unfold rowN
  rw [show PVn ([0, 1, 0, 0, 1, 0, 0] ++ (ns.take 5).map fun x => (x.fmod 3).toNat) = PVn [0, 1, 0, 0, 1, 0, 0] ++ PVn ((ns.take 5).map fun x => (x.fmod 3).toNat) from List.map_append]
  congr 1
  rw [show PVn ((ns.take 5).map fun x => (x.fmod 3).toNat) = (ns.take 5).map fun x => PV.int ((x.fmod 3).toNat : Nat) from (List.map_map (l := ns.take 5) (f := fun x : Int => (x.fmod 3).toNat) (g := fun x : Nat => PV.int (x : Nat)))]
  refine List.map_congr_left fun x _ => ?_
  have := fm_nn x 3 (by decide)
  have := this.1
  push_cast at this
  exact congrArg PV.int (by omega)
theorem sg_list {l : List Nat} (h : ∀ m ∈ l, m < 53248) : ((l.map fun (m : Nat) => Int.ofNat m).map fun n => PV.str (sg n.toNat)) = (l.map fun m => S (fmL m)).map .str := by
  rw [List.map_map, List.map_map]
  refine List.map_congr_left fun m hm => ?_
  show PV.str (S (sgL m)) = PV.str (S (fmL m))
  rw [fm_sg m (h m hm)]
theorem tu_lt {m : Nat} (h : m < 53248) : m ^^^ 511 < 53248 := (xor_low h (by decide)).1
theorem tg_list {l : List Nat} (h : ∀ m ∈ l, m < 53248) : ((l.map fun (m : Nat) => Int.ofNat m).map fun n => PV.str (sg (n.toNat ^^^ 511))) = (l.map fun m => S (fmL (m ^^^ 511))).map .str := by
  rw [List.map_map, List.map_map]
  refine List.map_congr_left fun m hm => ?_
  show PV.str (S (sgL (m ^^^ 511))) = PV.str (S (fmL (m ^^^ 511)))
  rw [fm_sg _ (tu_lt (h m hm))]
noncomputable def figP (ns : List Int) : List (List Nat) := (rowN ns).map fun k => hexs (msAt ns k)
theorem fig_list (ns : List Int) : (((rowN ns).map fun (k : Nat) => Int.ofNat k).map fun n => PV.str (S (hexs (msAt ns n.toNat)))) = ((figP ns).map S).map .str := by
  unfold figP; rw [List.map_map, List.map_map, List.map_map]; rfl
theorem row_ofNat (ns : List Int) : PVn (rowN ns) = ((rowN ns).map fun (k : Nat) => Int.ofNat k).map .int := by rw [List.map_map]; rfl
theorem flat4 : ∀ (l : List (List Nat)) (i : Nat) (x : List Nat), (∀ y ∈ l, y.length = 4) → l[i]? = some x → (l.flatten.drop (4 * i)).take 4 = x
  | [], i, x, _, e => by simp at e
  | y :: l, 0, x, h, e => by
    simp at e; subst e
    have := h y (.head _)
    simp [List.take_append, this, List.take_of_length_le (Nat.le_of_eq this)]
  | y :: l, i + 1, x, h, e => by
    have hy := h y (.head _)
    rw [List.flatten_cons, show 4 * (i + 1) = y.length + 4 * i by omega, List.drop_append, Nat.add_sub_cancel_left, List.drop_of_length_le (Nat.le_add_right _ _), List.nil_append]
    exact flat4 l i x (fun z hz => h z (.tail _ hz)) (by simpa using e)
theorem flat_len : ∀ (l : List (List Nat)), (∀ y ∈ l, y.length = 4) → l.flatten.length = 4 * l.length
  | [], _ => rfl
  | y :: l, h => by
    have hy := h y (.head _)
    have := flat_len l fun z hz => h z (.tail _ hz)
    simp only [List.flatten_cons, List.length_append, List.length_cons]; omega
theorem fig4 (ns : List Int) : ∀ y ∈ figP ns, y.length = 4 := fun y hy => by
  obtain ⟨k, _, rfl⟩ := List.mem_map.mp hy; rfl
noncomputable def txN (ns : List Int) (i : Nat) : List Nat := ((rowN ns).take i).map (msAt ns)
theorem FIP.weakC {w : World} {s0 s : Shared} {env : Env} {m cm cm' : List (Str × PV)} {Z : Heap → Prop} (F : FIP w s0 env m cm Z s) (h : ∀ p ∈ cm', cm.lookup p.1 = some p.2) : FIP w s0 env m cm' Z s := by
  refine ⟨F.x, F.kp, F.up, F.loc, ?_, F.z⟩
  obtain ⟨cv, X, r⟩ := F.cel
  exact ⟨cv, X, fun x pv e => r x pv (h (x, pv) (mem_of_lookup e))⟩
noncomputable def mSc (ns : List Int) : List (Str × PV) := [(Str.ofString "script", .list (ns.map .int))]
end
section
noncomputable def maxS (l : List Str) : Str := l.getD (argBest (fun i j => gtS (l.getD i default) (l.getD j default)) (l.length - 1)) default
noncomputable def IdxMax (l : List Str) (j : Nat) : Prop := l[j]? = some (maxS l) ∧ ∀ i, i < j → ∀ y, l[i]? = some y → y.cps.toList ≠ (maxS l).cps.toList
section
variable {w : World} {A : Around} {env : Env} {I : Inv}
theorem EV.idxmax {o o2 : Expr} {apos pos q pm : Pos} {xm : Str} {l : List Str} {j : Nat} (hA : Lv 2 A) (ho : EV w A env I o (.plist (l.map .str))) (ho2 : EV w A env I o2 (.plist (l.map .str))) (hn : EV w A env I (.Name xm pm) (.val (.builtin "max"))) (hj : IdxMax l j) (hsz : l.length ≤ 1000)
    (h1 : eval (.Call (.Name xm pm) [o2] [] q) env = (do callWith q (← eval (.Name xm pm) env) [] (backTo q (starEach [o2] env)) (backToKw q (keywordEach [] env))))
    (h2 : starEach [o2] env = (false, eval o2 env) :: starEach [] env) (h3 : (backTo q (starEach [] env)).any (·.1) = false)
    (hbase : attributeBase o (Str.ofString "index") env (eval o env) = eval o env) (hs : starEach [.Call (.Name xm pm) [o2] [] q] env = [(false, eval (.Call (.Name xm pm) [o2] [] q) env)]) (hline : (apos.endLine == pos.line) = true) :
    EV w A env I (.Call (.Attribute o (Str.ofString "index") apos) [.Call (.Name xm pm) [o2] [] q] [] pos) (.int (j : Nat)) := by
  have hpos : 0 < l.length := by
    have := (List.getElem?_eq_some_iff.mp hj.1).1
    omega
  refine EV.meth1 (T := "list") (id := "list.index") ho (EV.max_strs hA hn (EV.weak ho2) hpos h1 h2 h3) (fun s v r => ?_) PySem.F.plainAttrs_list PySem.F.slot_list_index PySem.F.type_list_index (fun s vs r => ?_) hbase hs hline
  · simp only [Rep] at r
    obtain ⟨a, us, rfl, ⟨n, e⟩, _⟩ := r
    exact ⟨⟨_, e, rfl⟩, fun x ex => by cases ex; exact ⟨_, e, rfl⟩⟩
  · refine CallV.index_str hj.1 hj.2 hsz s vs ?_
    simp only [RepL] at r ⊢
    obtain ⟨v, vs', e, r1, r2⟩ := r
    exact ⟨v, vs', e, rep_plist r1, r2⟩
end
theorem fmL_len (m : Nat) : (fmL m).length = 10 := by unfold fmL; simp
noncomputable def nmL (ns : List Int) : List (List Nat) := (msN ns).map fmL
noncomputable def tuL (ns : List Int) : List (List Nat) := (msN ns).map fun m => fmL (m ^^^ 511)
theorem nm_pv (ns : List Int) : (nmS ns).map PV.str = PVs (nmL ns) := rfl
theorem tu_pv (ns : List Int) : (tuS ns).map PV.str = PVs (tuL ns) := rfl
noncomputable def enS (ns : List Int) : List Str := (endsL (nmL ns) (rowN ns)).map S
noncomputable def otS (ns : List Int) : List Str := (endsL (tuL ns) (rowN ns)).map S
theorem en_pv (ns : List Int) : PVs (endsL (nmL ns) (rowN ns)) = (enS ns).map .str := by unfold enS; rw [List.map_map]; rfl
theorem ot_pv (ns : List Int) : PVs (endsL (tuL ns) (rowN ns)) = (otS ns).map .str := by unfold otS; rw [List.map_map]; rfl
theorem en_len (ns : List Int) : (enS ns).length = (rowN ns).length := by simp [enS, endsL]
theorem ot_len (ns : List Int) : (otS ns).length = (rowN ns).length := by simp [otS, endsL]
end
section
/-- what is kept but a frame and its cells -/
noncomputable abbrev ZO (env : Env) (h0 : Heap) : Heap → Prop := fun h => ∀ b o, h0.get? b = some o → ¬ Own env b → h.get? b = some o
open Classical in
theorem kept_own {env : Env} (g : Heap) : Stable env (ZO env g) := by
  refine ⟨(List.range g.objs.size).filter (fun b => decide ((∃ o, g.get? b = some o) ∧ ¬ Own env b)), fun b hb => ?_, fun h z b hb => ?_, fun h h' z k b o e hb => ?_⟩
  · simp only [List.mem_filter, decide_eq_true_eq] at hb
    exact ⟨hb.2.2, by simp⟩
  · simp only [List.mem_filter, decide_eq_true_eq] at hb
    obtain ⟨_, ⟨o, e⟩, hn⟩ := hb
    exact ⟨o, z b o e hn⟩
  · rw [k b ?_]
    · exact z b o e hb
    · simp only [List.mem_filter, decide_eq_true_eq, List.mem_range]
      exact ⟨Heap.lt_size e, ⟨o, e⟩, hb⟩
section
variable {w : World} {A : Around} {env : Env}
theorem old_own {s0 s2 : Shared} {m cm : List (Str × PV)} {Z : Heap → Prop} (F : FIP w s0 env m cm Z s2) (hL : s0.heap.get? env.locals = none) : ∀ b o, s0.heap.get? b = some o → ¬ Own env b := by
  rintro b o e (rfl | ⟨n, hn⟩)
  · rw [hL] at e; cases e
  · obtain ⟨cv, X, _⟩ := F.cel
    have h1 := X.above n b hn
    have h2 := F.up
    have h3 := Heap.lt_size e
    exact Nat.lt_irrefl _ (Nat.lt_trans (Nat.lt_of_lt_of_le h3 h2) h1)
/-- the assignment of a comprehension whose elements may catch exceptions -/
theorem assign_steps {s0 s2 : Shared} {m cm : List (Str × PV)} {R : Flow → Shared → Prop} {ss : List Stmt} {elt iter : Expr} {x y z : Str} {px py : Pos} {scope : Scope} {pos spos : Pos} {n : Nat} {stp : Nat → Nat} {base : Heap} {cl : List (Str × Addr)} {ct : Addr} {X : Str}
    (hA : A.handled = Option.none) (F : FIP w s0 env m cm (fun _ => True) s2) (g : G w base [] s0.heap) (hL : s0.heap.get? env.locals = none) (hnd : (env.cells.map (·.1)).Nodup) (hf : env.frame = some env.locals) (hk : env.scope.kind = .function)
    (hcm : cm.lookup z = some (.str X)) (hce : env.cells.lookup z = some ct) (hcl : cl.lookup z = some ct)
    (he : ∀ s, (FI w s0 env m cm (fun _ => True) Stable.tt).P s → ∀ (Q : Value → Shared → Prop) (E : Value → Shared → Prop), (∀ s' r t u v, Keeps s s' → IsRange s'.heap r 1 (1 + n) 1 t u v → Q (.ref r) s') → wpAny (model PF w) A (eval iter env) Q E s)
    (hsw : swapsWith (.ListComp elt [⟨.Name x px, iter, [], 0⟩] scope pos) (some (.Name y py)) spos.line env = pure true) (hl : env.kindOf y = some .local)
    (hclos : closureFor scope env = pure cl) (hcel : ∀ y ∈ scope.names, y.2 ≠ .cell) (hkind : scope.kind = .function)
    (hnames : ∀ y ∈ scope.names, y.2 = .local → scope.names.lookup y.1 = some .local) (hx : scope.names.lookup x = some .local) (hs : ∀ x, foldedSetIterable iter env x = pure x)
    (hn : n ≤ 1000)
    (hcall : ∀ s3 C k, k < n → (CI w s3 (compEnvC scope cl C env) [(x, .int (1 + (k : Nat)))] [(z, .str X)]).P s3 → G w base [env] s3.heap → wpAny (model PF w) A (eval elt (compEnvC scope cl C env)) (fun v s' => ∃ s1, Keeps s3 s1 ∧ Rep s'.heap (.int (stp k : Nat)) v ∧ Aft [env] s1 s' ∧ G w base [env] s'.heap) No s3)
    (hnext : ∀ s3, FIP w { s2 with heap := cutH base } env ((y, .list (stI stp n)) :: m) cm (ZO env s3.heap) s3 → Aft [] s0 s3 → G w base [] s3.heap → wpAny (model PF w) A (execs ss env) R No s3) :
    wpAny (model PF w) A (execs (.Assign [.Name y py] (.ListComp elt [⟨.Name x px, iter, [], 0⟩] scope pos) spos :: ss) env) R No s2 := by
  have hown := old_own F hL
  have k02 := FIP.kp F
  have g2 := g.keeps (kp_heap k02)
  obtain ⟨mv, nL, _⟩ := id F.loc
  have gf : G w base [env] s2.heap := g2.frame nL hf hk (g.fresh hL)
  obtain ⟨cv, Xc, rc⟩ := id F.cel
  obtain ⟨vt, hvt, rvt⟩ := rc z _ hcm
  have hcell := Xc.cell z ct hce
  rw [hvt] at hcell
  have hupb : (cutH base).objs.size ≤ env.locals := Nat.le_trans (cut_size base) (Nat.le_trans g.x.size F.up)
  refine wpAny_execs_cons ?_
  rw [exec_Assign_Name_used _ _ _ _ hsw]
  refine wpAny_bind (wpAny_standAt (wpAny_bind ?_))
  show wpAny _ A (do let _ ← comprehension (.ListComp elt [⟨.Name x px, iter, [], 0⟩] scope pos) scope env _ (newList []) false (eval iter env) (some (PySem.assign (.Name y py) env))) _ _ s2
  refine wpAny_bind (wpAny_mono (steps_comp (use := some (PySem.assign (.Name y py) env)) (Q := fun _ s' => wpAny (model PF w) A (execs ss env) R No s') hA hf F FI.has gf ⟨mv, nL⟩ hcl hcell (pt := .str X) ?hvt he hclos hcel hkind hnames hx hs hn hcall fun acc C s' r a g' hC hnC hr => ?_) (fun _ s' hq => wpAny_pure (wpAny_pure hq)) fun _ _ e => e)
  case hvt =>
    intro h
    simp only [Rep] at rvt ⊢
    exact rvt
  obtain ⟨a, h', tk, rfl⟩ := a
  have hL200 : env.locals ∉ [200] := fun q => by
    simp only [List.mem_singleton] at q
    obtain ⟨_, ps, hP, _⟩ := g2.tab
    exact F.apart hP rfl q.symm
  have hfm : [env].filterMap (·.frame) = [env.locals] := by simp [hf]
  rw [hfm] at a
  have kk : ∀ b o, b ≠ env.locals → b ≠ 200 → s2.heap.get? b = some o → h'.get? b = some o := fun b o h1 h2 e => (a b o e (by simpa using h2)).1 (by simpa using h1)
  have F3 := F.rebC (tk := tk) (h' := h') (Z' := fun _ => True) g'.xat.cut (fun b o e => g'.st b o (cut_of e)) hupb (fun o e => (a _ o e hL200).2) (fun b o hb hd e => kk b o hb (fun q => by
    subst q
    obtain ⟨_, ps, hP, _⟩ := g2.tab
    rw [e] at hP; cases hP
    exact hd _ rfl) e) trivial
  have hCo : ¬ Own env C := own_dict F hnd hC
  obtain ⟨mc, hnC⟩ := hnC
  have hCb : base.get? C = none := g2.fresh hC
  show wpAny _ A (PySem.assign (.Name y py) env acc) _ _ _
  refine assign_Name (SX.store F3 Stable.tt r hl hk fun s4 F4 hkeep => ⟨mc, hnC.at' fun o e => hkeep C o hCo e, fun h3 hs3 => hnext _ ?_ ?_ ?_⟩)
  · have hnC2 : s4.heap.Ns C mc := hnC.at' fun o e => hkeep C o hCo e
    have kb : ∀ b o, (∀ vs n, o.data = .seq vs n → s4.heap.get? b = some o → h3.get? b = some o) := fun b o vs n d e => hs3.extBut b o (by rintro rfl; obtain ⟨o', es, ep, e', d', _⟩ := hnC2; rw [e] at e'; cases e'; rw [d] at d'; cases d') e
    refine ⟨FIP.x F4, ?_, FIP.up F4, ?_, ?_, fun b o e _ => e⟩
    · obtain ⟨h, t, rfl, kk⟩ := FIP.kp F4
      exact ⟨h3, t, rfl, fun b o e => hs3.extBut b o (by rintro rfl; have := cut_of e; rw [hCb] at this; cases this) (kk b o e)⟩
    · obtain ⟨mv, n, rr⟩ := FIP.loc F4
      exact ⟨mv, n.sameBut hs3 (fun q => hCo (.inl q.symm)), fun z pv e => let ⟨v, a1, b1⟩ := rr z pv e; ⟨v, a1, b1.keepsBut kb⟩⟩
    · obtain ⟨cv, X, rc⟩ := FIP.cel F4
      refine ⟨cv, ⟨fun n c e => ?_, X.apart, X.above⟩, fun z pv e => let ⟨v, a1, b1⟩ := rc z pv e; ⟨v, a1, b1.keepsBut kb⟩⟩
      obtain ⟨o, e', d⟩ := X.cell n c e
      exact ⟨o, hs3.extBut _ _ (by rintro rfl; obtain ⟨o', es, ep, e2, d2, _⟩ := hnC2; rw [e'] at e2; cases e2; rw [d] at d2; cases d2) e', d⟩
  · obtain ⟨h, t, rfl, _⟩ := FIP.kp F4
    obtain ⟨hh, t0, e02, k0⟩ := k02
    refine ⟨fun b o e hb => ?_, h3, t, by rw [e02]⟩
    have hb' : b ≠ 200 := by simpa using hb
    have e2 : s2.heap.get? b = some o := by rw [e02]; exact k0 b o e
    have e3 := kk b o (fun q => hown b o e (.inl q)) hb' e2
    have e4 := hkeep b o (hown b o e) e3
    have e5 := hs3.extBut b o (by rintro rfl; rw [e2] at hC; cases hC) e4
    exact ⟨fun _ => e5, o.slots, e5⟩
  · obtain ⟨h, t, rfl, _⟩ := FIP.kp F4
    refine ⟨g'.xat, g'.n200, fun b o e => ?_, trivial, g'.tab.but fun b o vs e d _ => ?_⟩
    · exact hs3.extBut b o (by rintro rfl; rw [hCb] at e; cases e) (hkeep b o (hown b o (g.st b o e)) (g'.st b o e))
    · have ho : ¬ Own env b := own_get F3 e ⟨fun es ep q => (by rw [d] at q; cases q), fun v q => (by rw [d] at q; cases q)⟩ hnd
      refine hs3.extBut b o ?_ (hkeep b o ho e)
      rintro rfl
      obtain ⟨o', es, ep, e2, d2, _⟩ := hnC
      rw [show h'.get? _ = some o from e] at e2; cases e2; rw [d] at d2; cases d2
/-- the end -/
theorem fin_own {s0 s2 s3 s5 : Shared} {m cm m' : List (Str × PV)} {base : Heap} (hown : ∀ b o, s0.heap.get? b = some o → ¬ Own env b) (hnd : (env.cells.map (·.1)).Nodup) (F3 : FIP w { s2 with heap := cutH base } env m cm (ZO env s3.heap) s3) (a : Aft [] s0 s3) (g0 : G w base [] s0.heap) (g : G w base [] s3.heap)
    (F5 : FIP w { s2 with heap := cutH base } env m' cm (ZO env s3.heap) s5) : Aft [] s0 s5 ∧ G w base [] s5.heap := by
  obtain ⟨p1, p2, p3⟩ := FIP.rest F3
  obtain ⟨q1, q2, q3⟩ := FIP.rest F5
  obtain ⟨a, h3, tk3, rfl⟩ := a
  have z := F5.z
  refine ⟨⟨fun b o e hb => ?_, s5.heap, s5.toks, ?_⟩, ⟨g.xat, g.n200, fun b o e => z b o (g.st b o e) (hown b o (g0.st b o e)), trivial, g.tab.but fun b o vs e d _ => ?_⟩⟩
  · have e3 := (a b o e hb).1 (by simp)
    have := z b o e3 (hown b o e)
    exact ⟨fun _ => this, o.slots, this⟩
  · dsimp only at p1 p2 p3 q1 q2 q3 ⊢
    rw [← p1] at q1; rw [← p2] at q2; rw [← p3] at q3
    rw [← q1, ← q2, ← q3]
  · exact z b o e (own_get F3 e ⟨fun es ep q => (by rw [d] at q; cases q), fun v q => (by rw [d] at q; cases q)⟩ hnd)
end
end
section
noncomputable def lawFdS (P : Params) : { fd : FuncData // (Mine.suf.o_265 P).data = .func fd } := ⟨_, rfl⟩
noncomputable def lawBody (P : Params) : { b : List Stmt // (lawFdS P).1.body = .stmts b } := ⟨_, rfl⟩
noncomputable abbrev lawEnv (P : Params) (L : Addr) : Env := callEnvC (lawFdS P).1 L 257
noncomputable abbrev mTl (ends : List Str) (row : List Nat) (c : Nat) : List (Str × PV) := [(Str.ofString "cut", .int (c : Nat)), (Str.ofString "ends", .plist (ends.map .str)), (Str.ofString "row", .list (PVn row))]
set_option maxHeartbeats 4000000 in
theorem law_tail (w : World) (A : Around) (hA : Lv 13 A) (x : List Nat) (ends : List Str) (row : List Nat) (c p : Nat) (stp : Nat → Nat) (L : Addr) (s s2 : Shared) (base : Heap)
    (hfr : A.frames = some [lawEnv w.params L]) (hL : s.heap.get? L = none) (g : G w base [] s.heap)
    (F : FIP w s (lawEnv w.params L) (mTl ends row c) [(Str.ofString "text", .str (S x))] (fun _ => True) s2)
    (hlen : 2 ≤ row.length) (hlen2 : row.length ≤ 100) (hst : ∀ k, k < row.length - 1 → PX w 12 252 [.str (S x), .int ((k + 1 : Nat) : Int)] (.int (stp k : Nat)))
    (hper : PC w 11 238 [.list (ends.map .str)] (.int (p : Nat)))
    (hmax : ((List.range (row.length - 1)).map fun i => (stp i : Int)).getD (argBest (fun i j => decide (((List.range (row.length - 1)).map fun i => (stp i : Int)).getD i 0 > ((List.range (row.length - 1)).map fun i => (stp i : Int)).getD j 0)) (((List.range (row.length - 1)).map fun i => (stp i : Int)).length - 1)) 0 = (p : Nat))
    (hc0 : 0 < c) (hc : c < row.length) (hcut : stp (c - 1) = p) :
    wpAny (model PF w) A (execs ((lawBody w.params).1.drop 15) (lawEnv w.params L)) (fun f s' => ∃ v, f = .ret v ∧ Rep s'.heap (.bool true) v ∧ Aft [] s s' ∧ G w base [] s'.heap) No s2 := by
  have hnd : ((lawEnv w.params L).cells.map (·.1)).Nodup := by
    have e : (lawEnv w.params L).cells.map (·.1) = [Str.ofString "text", Str.ofString "modes"] := by kernel_rfl
    rw [e]
    decide +kernel
  have hown := old_own F hL
  refine assign_steps (z := Str.ofString "text") (cl := [(Str.ofString "text", L + 2)]) (n := row.length - 1) (stp := stp) (ct := L + 2) (X := S x) hA.1 F g hL hnd rfl rfl ?h1 ?h2 ?h3 ?h4 ?h5 ?h6 ?h7 ?h8 ?h9 ?h10 ?h11 (fun x => rfl) (by omega) ?h12 ?h13
  case h1 => walk_at "lk"
  case h2 => kernel_rfl
  case h7 => rfl
  case h3 => kernel_rfl
  case h4 =>
    refine ev_range2 (EV.bui FI.has b_range.1 b_range.2 ?a1 ?a2 ?a3 ?a4 ?a5) EV.int (EV.as (EV.callbui (EV.bui FI.has b_len.1 b_len.2 ?a6 ?a7 ?a8 ?a9 ?a10) (EVs.cons (pv := .list (PVn row)) ?a11 EVs.nil ?a12) (CallV.len_list (by simp; omega)) ?a13 ?a14 ?a15) (congrArg PV.int (by simp; omega))) ?a16 ?a17 ?a18
    case a1 => kernel_rfl
    case a2 => rfl
    case a3 => rfl
    case a4 => rfl
    case a5 => kernel_rfl
    case a6 => kernel_rfl
    case a7 => rfl
    case a8 => rfl
    case a9 => rfl
    case a10 => kernel_rfl
    case a11 => walk_at "ev"
    case a12 => rfl
    case a13 => rfl
    case a14 => rfl
    case a15 => rfl
    case a16 => rfl
    case a17 => rfl
    case a18 => rfl
  case h5 => rfl
  case h6 => kernel_rfl
  case h8 => decide +kernel
  case h9 => rfl
  case h10 => decide +kernel
  case h11 => kernel_rfl
  case h12 =>
    intro s3 C k hk ci g3
    refine no_mono (wp_callPX (hst k hk) (fn_across w) (hA.less (by decide)) hfr (EV.glob CI.has g_across ?b1 ?b2 ?b3 ?b4) (EVs.cons (EV.cellK at_here ?b5 ?b6 ?b7) (EVs.cons (EV.as (p := .int (1 + (k : Nat))) (EV.locK at_here ?b8 ?b9 ?b10) (congrArg PV.int (by omega))) EVs.nil ?b11) ?b12) CI.has ?b13 ?b14 s3 ci g3) fun v s4 ⟨s5, k5, F5, r4, a4, g4⟩ => ⟨s5, k5, r4, a4, g4⟩
    case b1 => kernel_rfl
    case b2 => kernel_rfl
    case b3 => kernel_rfl
    case b4 => kernel_rfl
    case b5 => kernel_rfl
    case b6 => kernel_rfl
    case b7 => kernel_rfl
    case b8 => kernel_rfl
    case b9 => kernel_rfl
    case b10 => kernel_rfl
    case b11 => rfl
    case b12 => rfl
    case b13 => rfl
    case b14 => rfl
  case h13 =>
    intro s3 F3 a3 g3
    refine (?key : SX w A (lawEnv w.params L) (FI w { s2 with heap := cutH base } _ _ [(Str.ofString "text", .str (S x))] (ZO _ s3.heap) (kept_own _)) _ (fun f s' => ∃ v, f = .ret v ∧ Rep s'.heap (.bool true) v ∧ Aft [] s s' ∧ G w base [] s'.heap)) s3 F3
    refine SX.assign (pv := .int (p : Nat)) (EV.fn hper (fn_period w) (hA.less (by decide)) (EV.glob FI.has g_period ?c1 ?c2 ?c3 ?c4) (EVs.cons (EV.weak (l := ends.map .str) ?c5) EVs.nil ?c6) FI.has ?c7 ?c8) ?c9 ?c10 ?c11 ?_
    case c1 => kernel_rfl
    case c2 => rfl
    case c3 => rfl
    case c4 => kernel_rfl
    case c5 => walk_at "ev"
    case c6 => rfl
    case c7 => rfl
    case c8 => rfl
    case c9 => kernel_rfl
    case c10 => rfl
    case c11 => rfl
    have hst' : stI stp (row.length - 1) = ((List.range (row.length - 1)).map fun i => (stp i : Int)).map .int := by rw [List.map_map]; rfl
    refine SX.ret (pv := .bool true) (EV.as (EV.and2 (b := true) (c := true) (EV.as (EV.cmp (a := .int (p : Nat)) (b := .int (p : Nat)) (EV.as (EV.max_ints (ls := (List.range (row.length - 1)).map fun i => (stp i : Int)) (hA.less (by decide)) (EV.bui FI.has b_max.1 b_max.2 ?d1 ?d2 ?d3 ?d4 ?d5) (EV.as ?d6 (congrArg PV.list hst')) (by simp; omega) ?d7 ?d8 ?d9) (congrArg PV.int hmax)) ?d10 CmpV.eq_int ?d11) (congrArg PV.bool (by simp))) fun _ => EV.as (EV.cmp (a := .int (p : Nat)) (b := .int (p : Nat)) (EV.sub (a := .list (stI stp (row.length - 1))) (i := .int ((c - 1 : Nat) : Int)) ?e1 (EV.as (EV.binop (a := .int (c : Nat)) (b := .int 1) ?e2 EV.int OpV.sub_int) (congrArg PV.int (by omega))) (SubV.list (r := .int (p : Nat)) ?e3 (by omega) (fun a u => by with_unfolding_all rfl) (fun a r => by with_unfolding_all rfl))) ?e4 CmpV.eq_int ?e5) (congrArg PV.bool (by simp))) rfl) fun s5 v F5 r => ⟨v, rfl, r, fin_own hown hnd F3 a3 g g3 F5⟩
    case d1 => kernel_rfl
    case d2 => rfl
    case d3 => rfl
    case d4 => rfl
    case d5 => kernel_rfl
    case d6 => walk_at "ev"
    case d7 => rfl
    case d8 => rfl
    case d9 => rfl
    case d10 => walk_at "ev"
    case d11 => rfl
    case e1 => walk_at "ev"
    case e2 => walk_at "ev"
    case e3 =>
      unfold stI
      rw [List.getElem?_map, List.getElem?_range (by omega), Option.map_some, hcut]
    case e4 => walk_at "ev"
    case e5 => rfl
end
section
noncomputable abbrev mMd (ns : List Int) : List (Str × PV) := [(Str.ofString "row", .list (PVn (rowN ns))), (Str.ofString "turned", .list ((tuS ns).map .str)), (Str.ofString "names", .list ((nmS ns).map .str))]
set_option maxHeartbeats 4000000 in
theorem law_mid (w : World) (A : Around) (hA13 : Lv 13 A) (ns : List Int) (j1 j2 p : Nat) (stp : Nat → Nat) (L : Addr) (s s2 : Shared) (base : Heap)
    (hfr : A.frames = some [lawEnv w.params L]) (hL : s.heap.get? L = none) (g : G w base [] s.heap)
    (F : FIP w s (lawEnv w.params L) (mMd ns) [(Str.ofString "text", .str (S (txN ns (rowN ns).length)))] (fun _ => True) s2)
    (hj1 : IdxMax (enS ns) j1) (hj2 : IdxMax (otS ns) j2)
    (hst : ∀ k, k < (rowN ns).length - 1 → PX w 12 252 [.str (S (txN ns (rowN ns).length)), .int ((k + 1 : Nat) : Int)] (.int (stp k : Nat)))
    (hper : PC w 11 238 [.list ((enS ns).map .str)] (.int (p : Nat)))
    (hmax : ((List.range ((rowN ns).length - 1)).map fun i => (stp i : Int)).getD (argBest (fun i j => decide (((List.range ((rowN ns).length - 1)).map fun i => (stp i : Int)).getD i 0 > ((List.range ((rowN ns).length - 1)).map fun i => (stp i : Int)).getD j 0)) (((List.range ((rowN ns).length - 1)).map fun i => (stp i : Int)).length - 1)) 0 = (p : Nat))
    (hc0 : 0 < max j1 j2) (hc : max j1 j2 < (rowN ns).length) (hcut : stp (max j1 j2 - 1) = p) :
    wpAny (model PF w) A (execs ((lawBody w.params).1.drop 12) (lawEnv w.params L)) (fun f s' => ∃ v, f = .ret v ∧ Rep s'.heap (.bool true) v ∧ Aft [] s s' ∧ G w base [] s'.heap) No s2 := by
  have hrl := row_len ns
  have hA5 : Lv 5 A := hA13.less (by decide)
  have hA2 : Lv 2 A := hA13.less (by decide)
  refine (?key : SX w A (lawEnv w.params L) (FI w s _ (mMd ns) [(Str.ofString "text", .str (S (txN ns (rowN ns).length)))] (fun _ => True) Stable.tt) _ (fun f s' => ∃ v, f = .ret v ∧ Rep s'.heap (.bool true) v ∧ Aft [] s s' ∧ G w base [] s'.heap)) s2 F
  refine SX.assign (pv := .plist ((enS ns).map .str)) (EV.as (EV.fn (pc_law_ends w (nmL ns) (rowN ns) (fun n hn => ?va1) (fun k hk => (show k < 3 from row_lt ns k hk)) (by omega) (by simp [nmL, msN])) (fn_ends w) hA5 (EV.glob FI.has g_ends ?va2 ?va3 ?va4 ?va5) (EVs.cons (EV.as (p := .list ((nmS ns).map .str)) ?va6 (congrArg PV.list (nm_pv ns))) (EVs.cons ?va7 EVs.nil ?va8) ?va9) FI.has ?va10 ?va11) (congrArg PV.plist (en_pv ns))) ?va12 ?va13 ?va14 ?_
  case va1 =>
    obtain ⟨m, _, rfl⟩ := List.mem_map.mp hn
    exact Nat.le_of_eq (fmL_len _)
  case va2 => kernel_rfl
  case va3 => rfl
  case va4 => rfl
  case va5 => kernel_rfl
  case va6 => walk_at "ev"
  case va7 => walk_at "ev"
  case va8 => rfl
  case va9 => rfl
  case va10 => rfl
  case va11 => rfl
  case va12 => kernel_rfl
  case va13 => rfl
  case va14 => rfl
  refine SX.assign (pv := .plist ((otS ns).map .str)) (EV.as (EV.fn (pc_law_ends w (tuL ns) (rowN ns) (fun n hn => ?vb1) (fun k hk => (show k < 3 from row_lt ns k hk)) (by omega) (by simp [tuL, msN])) (fn_ends w) hA5 (EV.glob FI.has g_ends ?vb2 ?vb3 ?vb4 ?vb5) (EVs.cons (EV.as (p := .list ((tuS ns).map .str)) ?vb6 (congrArg PV.list (tu_pv ns))) (EVs.cons ?vb7 EVs.nil ?vb8) ?vb9) FI.has ?vb10 ?vb11) (congrArg PV.plist (ot_pv ns))) ?vb12 ?vb13 ?vb14 ?_
  case vb1 =>
    obtain ⟨m, _, rfl⟩ := List.mem_map.mp hn
    exact Nat.le_of_eq (fmL_len _)
  case vb2 => kernel_rfl
  case vb3 => rfl
  case vb4 => rfl
  case vb5 => kernel_rfl
  case vb6 => walk_at "ev"
  case vb7 => walk_at "ev"
  case vb8 => rfl
  case vb9 => rfl
  case vb10 => rfl
  case vb11 => rfl
  case vb12 => kernel_rfl
  case vb13 => rfl
  case vb14 => rfl
  refine SX.assign (pv := .int ((max j1 j2 : Nat) : Int)) (EV.as (EV.callbui (EV.bui FI.has b_max.1 b_max.2 ?w1 ?w2 ?w3 ?w4 ?w5) (EVs.cons (EV.idxmax (l := enS ns) (j := j1) hA2 ?w6 ?x6 (EV.bui FI.has b_max.1 b_max.2 ?w7 ?w8 ?w9 ?w10 ?w11) hj1 (by rw [en_len]; omega) ?w12 ?w13 ?w14 ?w15 ?w16 ?w17) (EVs.cons (EV.idxmax (l := otS ns) (j := j2) hA2 ?w18 ?x18 (EV.bui FI.has b_max.1 b_max.2 ?w19 ?w20 ?w21 ?w22 ?w23) hj2 (by rw [ot_len]; omega) ?w24 ?w25 ?w26 ?w27 ?w28 ?w29) EVs.nil ?w30) ?w31) (CallV.max_two hA13.1) ?w32 ?w33 ?w34) (congrArg PV.int (by omega))) ?w35 ?w36 ?w37 ?_
  case w1 => kernel_rfl
  case w2 => rfl
  case w3 => rfl
  case w4 => rfl
  case w5 => kernel_rfl
  case w6 => walk_at "ev"
  case x6 => walk_at "ev"
  case w7 => kernel_rfl
  case w8 => rfl
  case w9 => rfl
  case w10 => rfl
  case w11 => kernel_rfl
  case w12 => rfl
  case w13 => rfl
  case w14 => rfl
  case w15 => rfl
  case w16 => rfl
  case w17 => rfl
  case w18 => walk_at "ev"
  case x18 => walk_at "ev"
  case w19 => kernel_rfl
  case w20 => rfl
  case w21 => rfl
  case w22 => rfl
  case w23 => kernel_rfl
  case w24 => rfl
  case w25 => rfl
  case w26 => rfl
  case w27 => rfl
  case w28 => rfl
  case w29 => rfl
  case w30 => rfl
  case w31 => rfl
  case w32 => rfl
  case w33 => rfl
  case w34 => rfl
  case w35 => kernel_rfl
  case w36 => rfl
  case w37 => rfl
  intro s3 F3
  refine law_tail w A hA13 (txN ns (rowN ns).length) (enS ns) (rowN ns) (max j1 j2) p stp L s s3 base hfr hL g (FIP.weaken F3 fun q hq => ?_) (by omega) (by omega) hst hper hmax hc0 hc hcut
  simp only [mTl, List.mem_cons, List.not_mem_nil, or_false] at hq
  rcases hq with rfl | rfl | rfl <;> walk_at "lk"
end
section
noncomputable abbrev mLp (ns : List Int) : List (Str × PV) := [(Str.ofString "figures", .str (S (figP ns).flatten)), (Str.ofString "row", .list (PVn (rowN ns))), (Str.ofString "turned", .list ((tuS ns).map .str)), (Str.ofString "names", .list ((nmS ns).map .str))]
set_option maxHeartbeats 4000000 in
theorem law_loop (w : World) (A : Around) (hA13 : Lv 13 A) (ns : List Int) (L : Addr) (s s2 : Shared) (base : Heap) (R : Flow → Shared → Prop)
    (F : FIP w s (lawEnv w.params L) (mLp ns) [(Str.ofString "modes", .list ((msI ns).map .int))] (fun _ => True) s2)
    (hmid : ∀ s3, FIP w s (lawEnv w.params L) (mMd ns) [(Str.ofString "text", .str (S (txN ns (rowN ns).length)))] (fun _ => True) s3 → wpAny (model PF w) A (execs ((lawBody w.params).1.drop 12) (lawEnv w.params L)) R No s3) :
    wpAny (model PF w) A (execs ((lawBody w.params).1.drop 9) (lawEnv w.params L)) R No s2 := by
  have hnd : ((lawEnv w.params L).cells.map (·.1)).Nodup := by
    have e : (lawEnv w.params L).cells.map (·.1) = [Str.ofString "text", Str.ofString "modes"] := by kernel_rfl
    rw [e]
    decide +kernel
  have hrl := row_len ns
  have hA3 : Lv 3 A := hA13.less (by decide)
  have hA1 : Lv 1 A := hA13.less (by decide)
  have hrow3 : ∀ n ∈ (rowN ns).map fun (k : Nat) => Int.ofNat k, ∃ k : Nat, n = (k : Int) ∧ k < 3 := fun n hn => by
    obtain ⟨k, hk, rfl⟩ := List.mem_map.mp hn
    exact ⟨k, rfl, row_lt ns k hk⟩
  have hfl : (figP ns).flatten.length = 4 * (rowN ns).length := by rw [flat_len _ (fig4 ns)]; simp [figP]
  refine (?key : SX w A (lawEnv w.params L) (FI w s _ (mLp ns) [(Str.ofString "modes", .list ((msI ns).map .int))] (fun _ => True) Stable.tt) _ R) s2 F
  refine SX.assignC (pv := .str (S (txN ns 0))) (c := L + 2) (EV.as (EV.strS (l := []) (by decide +kernel)) (congrArg PV.str (show S [] = S (txN ns 0) by simp [txN]))) ?m1 ?m2 ?m3 ?m4 (SX.assign (pv := .int ((4 * 0 : Nat) : Int)) (EV.as EV.int rfl) ?m5 ?m6 ?m7 ?_)
  case m1 => kernel_rfl
  case m2 => kernel_rfl
  case m3 => rfl
  case m4 => rfl
  case m5 => kernel_rfl
  case m6 => rfl
  case m7 => rfl
  refine SX.weak (m' := [(Str.ofString "pos", .int ((4 * 0 : Nat) : Int)), (Str.ofString "figures", .str (S (figP ns).flatten)), (Str.ofString "row", .list (PVn (rowN ns))), (Str.ofString "turned", .list ((tuS ns).map .str)), (Str.ofString "names", .list ((nmS ns).map .str))]) ?_ (fun p hp => ?wk)
  case wk =>
    simp only [List.mem_cons, List.not_mem_nil, or_false] at hp
    rcases hp with rfl | rfl | rfl | rfl | rfl <;> walk_at "lk"
  refine SX.for1C (items := ((rowN ns).map fun (k : Nat) => Int.ofNat k).map fun n => .int (msAt ns n.toNat : Nat)) (fun i => [(Str.ofString "pos", .int ((4 * i : Nat) : Int)), (Str.ofString "figures", .str (S (figP ns).flatten)), (Str.ofString "row", .list (PVn (rowN ns))), (Str.ofString "turned", .list ((tuS ns).map .str)), (Str.ofString "names", .list ((nmS ns).map .str))])
    (fun i => [(Str.ofString "text", .str (S (txN ns i))), (Str.ofString "modes", .list ((msI ns).map .int))]) rfl rfl ?n1 ?n2 ?n3 ?n4 ?n5 ?n6 ?n7 (fun x => rfl)
  case n1 => exact hnd
  case n4 => kernel_rfl
  case n5 => rfl
  case n3 =>
    intro p hp
    obtain ⟨k, _, rfl⟩ := List.mem_map.mp hp; rfl
  case n2 =>
    refine ItV.listV hA13.1 (EV.weak (EV.compI (ns := (rowN ns).map fun (k : Nat) => Int.ofNat k) (g := fun n => .int (msAt ns n.toNat : Nat)) (fun n => rfl) [(Str.ofString "modes", .list ((msI ns).map .int))] (ItV.listV hA13.1 (EV.as ?l1 (congrArg PV.list (row_ofNat ns)))) FI.has ?l2 rfl ?l3 rfl ?l4 ?l5 (by simp [sizeLine]; omega) ?l6))
    case l1 => walk_at "ev"
    case l2 =>
      intro s' F x pv e
      obtain ⟨cv, X, r⟩ := FIP.cel F
      simp only [List.lookup_cons, List.lookup_nil] at e
      cases hb : x == Str.ofString "modes" with
      | false => rw [hb] at e; cases e
      | true =>
        rw [hb] at e; cases e
        rw [eq_of_beq hb]
        obtain ⟨v, hv, rv⟩ := r (Str.ofString "modes") (.list ((msI ns).map .int)) (by walk_at "lk")
        exact ⟨L + 1, v, by kernel_rfl, hv ▸ X.cell _ _ (by kernel_rfl), rv⟩
    case l3 => decide +kernel
    case l4 => decide +kernel
    case l5 => kernel_rfl
    case l6 =>
      intro s' C n hn
      obtain ⟨k, rfl, hk⟩ := hrow3 n hn
      obtain ⟨hm1, hm2⟩ := ms_at (ns := ns) hk
      exact EV.sub (a := .list ((msI ns).map .int)) (i := .int (k : Nat)) (EV.cellK at_here (by kernel_rfl) (by kernel_rfl) (by kernel_rfl)) (EV.locK at_here (by kernel_rfl) (by kernel_rfl) (by kernel_rfl)) (SubV.list (r := .int (msAt ns k : Nat)) (by rw [List.getElem?_map, hm1]; rfl) (by omega) (fun a u => by with_unfolding_all rfl) (fun a r => by with_unfolding_all rfl))
  case n6 =>
    intro i p Zb hzb hp
    obtain ⟨hi, hpe⟩ : i < (rowN ns).length ∧ ∃ k, (rowN ns)[i]? = some k ∧ k < 3 ∧ p = .int (msAt ns k : Nat) := by
      rw [List.map_map, List.getElem?_map] at hp
      obtain ⟨k, hk, e⟩ := Option.map_eq_some_iff.mp hp
      exact ⟨(List.getElem?_eq_some_iff.mp hk).1, k, hk, row_lt ns k (List.mem_of_getElem? hk), e.symm⟩
    obtain ⟨k, hk, hk3, rfl⟩ := hpe
    obtain ⟨hm1, hm2⟩ := ms_at (ns := ns) hk3
    have htl : (txN ns i).length = i := by simp [txN]; omega
    have htx : txN ns (i + 1) = txN ns i ++ [msAt ns k] := by
      unfold txN
      rw [List.take_add_one, hk, List.map_append]; rfl
    refine SX.unpack2 (p := .int ((4 * (i + 1) : Nat) : Int)) (q := .str (S [msAt ns k])) hA13.1 (EV.as (EV.fn (pc_parse_hex_char w (figP ns).flatten (4 * i) (msAt ns k) (by omega) (by omega) hm2 (flat4 _ i _ (fig4 ns) (by unfold figP; rw [List.getElem?_map, hk]; rfl))) (fn_phc w) hA3 (EV.glob FI.has g_phc ?o1 ?o2 ?o3 ?o4) (EVs.cons ?o5 (EVs.cons ?o6 (EVs.cons EV.int EVs.nil ?o7) ?o8) ?o9) FI.has ?o10 ?o11) (by rw [show 4 * i + 4 = 4 * (i + 1) by omega])) ⟨rfl, rfl⟩ ?o12 ?o13 ?o14 ?o15 ?o16 ?o17 ?_
    case o1 => kernel_rfl
    case o2 => rfl
    case o3 => rfl
    case o4 => kernel_rfl
    case o5 => walk_at "ev"
    case o6 => walk_at "ev"
    case o7 => rfl
    case o8 => rfl
    case o9 => rfl
    case o10 => rfl
    case o11 => rfl
    case o12 => kernel_rfl
    case o13 => kernel_rfl
    case o14 => rfl
    case o15 => rfl
    case o16 => rfl
    case o17 => rfl
    refine SX.augC (c' := L + 2) (a := .str (S (txN ns i))) (b := .str (S [msAt ns k])) ?r1 ?r2 (IOpV.add_S (by rw [htl]; simp; omega)) ?r3 ?r4 ?r5 ?_
    case r1 => walk_at "lk"
    case r2 => walk_at "ev"
    case r3 => kernel_rfl
    case r4 => kernel_rfl
    case r5 => rfl
    rw [← htx]
    have htl2 : (txN ns (i + 1)).length = i + 1 := by rw [htx]; simp [htl]
    refine SX.if_ (b := false) (EB.cmp (a := .tup ([((4 * (i + 1) : Nat) : Int), (msAt ns k : Int)].map .int)) (b := .tup ([((4 * (i + 1) : Nat) : Int), (msAt ns k : Int)].map .int)) (EV.tuple (EVs.cons ?t1 (EVs.cons (EV.callbui (EV.bui FI.has b_ord'.1 b_ord'.2 ?t2 ?t3 ?t4 ?t5 ?t6) (EVs.cons (pv := .str (S [msAt ns k])) ?t7 EVs.nil ?t8) CallV.ord ?t9 ?t10 ?t11) EVs.nil ?t12) ?t13) ?t14) (EV.tuple (EVs.cons (EV.as (EV.binop (a := .int 4) EV.int (EV.callbui (EV.bui FI.has b_len.1 b_len.2 ?u2 ?u3 ?u4 ?u5 ?u6) (EVs.cons (pv := .str (S (txN ns (i + 1)))) ?u7 EVs.nil ?u8) (CallV.len_str (by rw [S_length]; omega)) ?u9 ?u10 ?u11) (OpV.mul_int (by decide) (by rw [S_length]; omega))) (congrArg PV.int (by rw [S_length, htl2]; omega))) (EVs.cons ?u1 EVs.nil ?u12) ?u13) ?u14) (CmpV.ne_ints_same hA1)) (fun h => by cases h) (fun _ => SX.nil fun s' F' => ?u15)
    case t1 => walk_at "ev"
    case t2 => kernel_rfl
    case t3 => rfl
    case t4 => rfl
    case t5 => rfl
    case t6 => kernel_rfl
    case t7 => walk_at "ev"
    case t8 => rfl
    case t9 => rfl
    case t10 => rfl
    case t11 => rfl
    case t12 => rfl
    case t13 => rfl
    case t14 => simp [sizeLine]
    case u1 => walk_at "ev"
    case u2 => kernel_rfl
    case u3 => rfl
    case u4 => rfl
    case u5 => rfl
    case u6 => kernel_rfl
    case u7 => exact EV.cell (c := L + 2) (by walk_at "lk") (by kernel_rfl) (by kernel_rfl) (by kernel_rfl) (by kernel_rfl)
    case u8 => rfl
    case u9 => rfl
    case u10 => rfl
    case u11 => rfl
    case u12 => rfl
    case u13 => rfl
    case u14 => simp [sizeLine]
    case u15 =>
      refine wpAny_execs_nil ⟨rfl, FIP.weakC (FIP.weaken F' fun p hp => ?_) fun p hp => ?_⟩
      · simp only [List.mem_cons, List.not_mem_nil, or_false] at hp
        rcases hp with rfl | rfl | rfl | rfl | rfl <;> walk_at "lk"
      · simp only [List.mem_cons, List.not_mem_nil, or_false] at hp
        rcases hp with rfl | rfl <;> walk_at "lk"
  case n7 =>
    rw [show (((rowN ns).map fun (k : Nat) => Int.ofNat k).map fun n => PV.int (msAt ns n.toNat : Nat)).length = (rowN ns).length by simp]
    intro s3 F3
    refine hmid s3 (FIP.weakC (FIP.weaken F3 fun q hq => ?_) fun q hq => ?_)
    · simp only [mMd, List.mem_cons, List.not_mem_nil, or_false] at hq
      rcases hq with rfl | rfl | rfl <;> walk_at "lk"
    · simp only [List.mem_cons, List.not_mem_nil, or_false] at hq
      rcases hq with rfl
      walk_at "lk"
end
section
set_option maxHeartbeats 8000000 in
theorem px_law (w : World) (ns : List Int) (hlen : ns.length ≤ 63) (j1 j2 p : Nat) (stp : Nat → Nat) (hj1 : IdxMax (enS ns) j1) (hj2 : IdxMax (otS ns) j2)
    (hst : ∀ k, k < (rowN ns).length - 1 → PX w 12 252 [.str (S (txN ns (rowN ns).length)), .int ((k + 1 : Nat) : Int)] (.int (stp k : Nat)))
    (hper : PC w 11 238 [.list ((enS ns).map .str)] (.int (p : Nat)))
    (hmax : ((List.range ((rowN ns).length - 1)).map fun i => (stp i : Int)).getD (argBest (fun i j => decide (((List.range ((rowN ns).length - 1)).map fun i => (stp i : Int)).getD i 0 > ((List.range ((rowN ns).length - 1)).map fun i => (stp i : Int)).getD j 0)) (((List.range ((rowN ns).length - 1)).map fun i => (stp i : Int)).length - 1)) 0 = (p : Nat))
    (hc0 : 0 < max j1 j2) (hc : max j1 j2 < (rowN ns).length) (hcut : stp (max j1 j2 - 1) = p) : ∀ A s vs base, Lv 14 A → A.frames = some [] → G w base [] s.heap → RepL s.heap [.list (ns.map .int)] vs →
    wpAny (model PF w) A (call (.ref 257) vs) (fun v s' => Rep s'.heap (.bool true) v ∧ Aft [] s s' ∧ G w base [] s'.heap) No s := by
  intro A s vs base hA hfr g hr
  have hd : (Mine.suf.o_265 w.params).data = .func (lawFdS w.params).1 := (lawFdS w.params).2
  have hl1 := repL_len hr
  obtain ⟨v1, rfl⟩ := len1 hl1
  refine call_any (vs := [v1]) [Str.ofString "script"] [(Str.ofString "script", .list (ns.map .int))] rfl g.x hr hA.room (by kernel_rfl) hd (by kernel_rfl) (lawBody w.params).2 rfl rfl ?hk rfl rfl rfl fun L s1 hL k F => ?_
  case hk =>
    intro x hx
    simp only [List.mem_cons, List.not_mem_nil, or_false] at hx
    subst hx
    kernel_rfl
  have hup : s.heap.objs.size ≤ L := by have h1 : (ghoS s).heap.objs.size ≤ L := F.up; rw [gho_size] at h1; exact h1
  have hA13 := FIP.lv F hA
  have hfr' := FIP.deep F hfr
  refine no_mono ((?key : SX w _ _ (FI w s _ [(Str.ofString "script", .list (ns.map .int))] [] (fun _ => True) Stable.tt) _ (fun f s' => ∃ v, f = .ret v ∧ Rep s'.heap (.bool true) v ∧ Aft [] s s' ∧ G w base [] s'.heap)) s1 ⟨g.x, k, hup, F.loc, F.cel, trivial⟩) fun f s' q => q
  have hnd : ((lawEnv w.params L).cells.map (·.1)).Nodup := by
    have e : (lawEnv w.params L).cells.map (·.1) = [Str.ofString "text", Str.ofString "modes"] := by kernel_rfl
    rw [e]
    decide +kernel
  have hA3 : Lv 3 _ := hA13.less (by decide)
  refine SX.assign (pv := .int (hdI ns)) (EV.sum (ns := ns.take 63) hA13.1 (EV.bui FI.has b_sum.1 b_sum.2 ?a1 ?a2 ?a3 ?a4 ?a5) (EV.as (EV.weak (EVN.ev (EVN.sliceUp (l := ns.map .int) (n := 63) ?a6 EV.int (by simp [sizeLine]; omega) (fun _ _ => rfl)))) (congrArg PV.list List.map_take.symm)) ?a7 ?a8 ?a9) ?a10 ?a11 ?a12 ?_
  case a1 => kernel_rfl
  case a2 => rfl
  case a3 => rfl
  case a4 => rfl
  case a5 => kernel_rfl
  case a6 => walk_at "ev"
  case a7 => rfl
  case a8 => rfl
  case a9 => rfl
  case a10 => kernel_rfl
  case a11 => rfl
  case a12 => rfl
  refine SX.assign (pv := .int (m0N ns : Nat)) (EV.as (p := .int ((hdI ns + 8).fmod 13 * 4096 + ((hdI ns).fdiv 7 + 2490).fmod 4096)) ?b1 ?b2) ?b3 ?b4 ?b5 ?_
  case b1 =>
    have h1 := fm_nn (hdI ns + 8) 13 (by decide)
    push_cast at h1
    refine EV.binop (EV.binop (EV.binop (EV.binop ?c1 EV.int OpV.add_int) EV.int (OpV.mod_int (by decide))) EV.int (OpV.mul_int (by omega) (by decide))) (EV.binop (EV.binop (EV.binop ?c2 EV.int (OpV.div_int (by decide) (by decide))) EV.int OpV.add_int) EV.int (OpV.mod_int (by decide))) OpV.add_int
    case c1 => walk_at "ev"
    case c2 => walk_at "ev"
  case b2 => exact congrArg PV.int (by unfold m0N; rw [← (kd_lt ns).2, ← (lo_lt ns).2]; push_cast; rfl)
  case b3 => kernel_rfl
  case b4 => rfl
  case b5 => rfl
  refine SX.assign (pv := .int (b1N ns : Nat)) (EV.as (p := .int ((hdI ns + 6).fmod 12)) ?d1 (congrArg PV.int (b1_lt ns).2.symm)) ?d3 ?d4 ?d5 ?_
  case d1 => 
    refine EV.binop (EV.binop ?c1 EV.int OpV.add_int) EV.int (OpV.mod_int (by decide))
    case c1 => walk_at "ev"
  case d3 => kernel_rfl
  case d4 => rfl
  case d5 => rfl
  refine SX.assignC (pv := .list ((msI ns).map .int)) (c := L + 1) (EV.as (EV.list (EVs.cons (pv := .int (m0N ns : Nat)) ?e1 (EVs.cons (pv := .int (m1N ns : Nat)) (EV.as (p := .int (Builtin.bitXor (m0N ns : Nat) ((2 : Int) ^ (b1N ns : Int).toNat))) ?e2 ?e3) (EVs.cons (pv := .int (m2N ns : Nat)) (EV.as (p := .int (Builtin.bitXor (m0N ns : Nat) ((2 : Int) ^ (b2N ns : Int).toNat))) ?e4 ?e5) EVs.nil ?e6) ?e7) ?e8) ?e9) ?e10) ?e11 ?e12 ?e13 ?e14 ?_
  case e1 => walk_at "ev"
  case e2 =>
    refine EV.binop (a := .int (m0N ns : Nat)) (b := .int ((2 : Int) ^ (b1N ns : Int).toNat)) ?f1 (EV.binop (a := .int 2) (b := .int (b1N ns : Nat)) EV.int ?f2 (OpV.pow_int (by decide) (by omega) (by have := (b1_lt ns).1; omega))) OpV.xor_int
    case f1 => walk_at "ev"
    case f2 => walk_at "ev"
  case e3 =>
    refine congrArg PV.int ?_
    rw [show ((2 : Int) ^ (b1N ns : Int).toNat) = ((2 ^ b1N ns : Nat) : Int) by push_cast; rfl, bitXor_nat]
    rfl
  case e4 =>
    refine EV.binop (a := .int (m0N ns : Nat)) (b := .int ((2 : Int) ^ (b2N ns : Int).toNat)) ?f1 (EV.binop (a := .int 2) (b := .int (b2N ns : Nat)) EV.int (EV.as (EV.binop (EV.binop (EV.binop (a := .int (b1N ns : Nat)) ?f2 EV.int OpV.add_int) (EV.binop (a := .int (hdI ns)) ?f3 EV.int (OpV.mod_int (by decide))) OpV.add_int) EV.int (OpV.mod_int (by decide))) (congrArg PV.int (b2_lt ns).2.symm)) (OpV.pow_int (by decide) (by omega) (by have := (b2_lt ns).1; omega))) OpV.xor_int
    case f1 => walk_at "ev"
    case f2 => walk_at "ev"
    case f3 => walk_at "ev"
  case e5 =>
    refine congrArg PV.int ?_
    rw [show ((2 : Int) ^ (b2N ns : Int).toNat) = ((2 ^ b2N ns : Nat) : Int) by push_cast; rfl, bitXor_nat]
    rfl
  case e6 => rfl
  case e7 => rfl
  case e8 => rfl
  case e9 => simp [sizeLine]
  case e10 => rfl
  case e11 => kernel_rfl
  case e12 => kernel_rfl
  case e13 => rfl
  case e14 => rfl
  have hmem : ∀ n ∈ msI ns, ∃ m : Nat, n = (m : Int) ∧ m < 53248 := fun n hn => by
    obtain ⟨m, hm, rfl⟩ := List.mem_map.mp hn
    exact ⟨m, rfl, ms_lt ns m hm⟩
  refine SX.assignK (l := (nmS ns).map .str) ?g1 ?g2 ?g3 ?g4 (compG_I (ns := msI ns) (g := fun n => .str (S (fmL n.toNat))) (fun n => rfl) [] (ItV.listV hA13.1 ?g5) FI.has (fun s F x pv e => by cases e) rfl ?g6 rfl ?g7 ?g8 (by simp [msI, msN, sizeLine]) ?g9 (fun x => rfl)) ?_
  case g1 => exact hnd
  case g2 => rfl
  case g3 => kernel_rfl
  case g4 => rfl
  case g5 => exact EV.cell (c := L + 1) (by walk_at "lk") (by kernel_rfl) (by kernel_rfl) (by kernel_rfl) (by kernel_rfl)
  case g6 => decide +kernel
  case g7 => decide +kernel
  case g8 => kernel_rfl
  case g9 =>
    intro s' C n hn
    obtain ⟨m, rfl, hm⟩ := hmem n hn
    exact EV.fn (pc_filemode w m (by omega)) (fn_filemode w) hA3 (EV.glob CI.has g_filemode (by kernel_rfl) (by kernel_rfl) (by kernel_rfl) (by kernel_rfl)) (EVs.cons (EV.locK at_here (by kernel_rfl) (by kernel_rfl) (by kernel_rfl)) EVs.nil rfl) CI.has rfl rfl
  refine SX.assignK (l := (tuS ns).map .str) ?h1 ?h2 ?h3 ?h4 (compG_I (ns := msI ns) (g := fun n => .str (S (fmL (n.toNat ^^^ 511)))) (fun n => rfl) [] (ItV.listV hA13.1 ?h5) FI.has (fun s F x pv e => by cases e) rfl ?h6 rfl ?h7 ?h8 (by simp [msI, msN, sizeLine]) ?h9 (fun x => rfl)) ?_
  case h1 => exact hnd
  case h2 => rfl
  case h3 => kernel_rfl
  case h4 => rfl
  case h5 => exact EV.cell (c := L + 1) (by walk_at "lk") (by kernel_rfl) (by kernel_rfl) (by kernel_rfl) (by kernel_rfl)
  case h6 => decide +kernel
  case h7 => decide +kernel
  case h8 => kernel_rfl
  case h9 =>
    intro s' C n hn
    obtain ⟨m, rfl, hm⟩ := hmem n hn
    exact EV.fn (pc_filemode w (m ^^^ 511) (Nat.lt_trans (tu_lt hm) (by decide))) (fn_filemode w) hA3 (EV.glob CI.has g_filemode (by kernel_rfl) (by kernel_rfl) (by kernel_rfl) (by kernel_rfl)) (EVs.cons (EV.as (EV.binop (a := .int (m : Nat)) (b := .int 511) (EV.locK at_here (by kernel_rfl) (by kernel_rfl) (by kernel_rfl)) EV.int OpV.xor_int) (congrArg PV.int (bitXor_nat m 511))) EVs.nil rfl) CI.has rfl rfl
  have hA1 : Lv 1 _ := hA13.less (by decide)
  refine SX.if_ (b := (false || (false || false))) (EB.or (EB.cmp (a := .list ((nmS ns).map .str)) (b := .list ((nmS ns).map .str)) ?i1 (EV.as (EV.weak (EV.compI (ns := msI ns) (g := fun n => .str (sg n.toNat)) (fun n => rfl) [] (ItV.listV hA13.1 ?i2) FI.has (fun s F x pv e => by cases e) rfl ?i3 rfl ?i4 ?i5 (by simp [msI, msN, sizeLine]) ?i6)) (congrArg PV.list (sg_list (ms_lt ns)))) (CmpV.ne_strs_same hA1)) fun _ => EB.or (EB.cmp (a := .list ((tuS ns).map .str)) (b := .list ((tuS ns).map .str)) ?j1 (EV.as (EV.weak (EV.compI (ns := msI ns) (g := fun n => .str (sg (n.toNat ^^^ 511))) (fun n => rfl) [] (ItV.listV hA13.1 ?j2) FI.has (fun s F x pv e => by cases e) rfl ?j3 rfl ?j4 ?j5 (by simp [msI, msN, sizeLine]) ?j6)) (congrArg PV.list (tg_list (ms_lt ns)))) (CmpV.ne_strs_same hA1)) fun _ => EB.or_nil) (fun h => by cases h) (fun _ => SX.then_nil ?_)
  case i1 => walk_at "ev"
  case j1 => walk_at "ev"
  case i2 => exact EV.cell (c := L + 1) (by walk_at "lk") (by kernel_rfl) (by kernel_rfl) (by kernel_rfl) (by kernel_rfl)
  case j2 => exact EV.cell (c := L + 1) (by walk_at "lk") (by kernel_rfl) (by kernel_rfl) (by kernel_rfl) (by kernel_rfl)
  case i3 => decide +kernel
  case j3 => decide +kernel
  case i4 => decide +kernel
  case j4 => decide +kernel
  case i5 => kernel_rfl
  case j5 => kernel_rfl
  case i6 =>
    intro s' C n hn
    obtain ⟨m, rfl, hm⟩ := hmem n hn
    exact EV.fn (pc_law_signs w m hm) (fn_signs w) hA1 (EV.glob CI.has g_signs (by kernel_rfl) (by kernel_rfl) (by kernel_rfl) (by kernel_rfl)) (EVs.cons (EV.locK at_here (by kernel_rfl) (by kernel_rfl) (by kernel_rfl)) EVs.nil rfl) CI.has rfl rfl
  case j6 =>
    intro s' C n hn
    obtain ⟨m, rfl, hm⟩ := hmem n hn
    exact EV.fn (pc_law_signs w (m ^^^ 511) (tu_lt hm)) (fn_signs w) hA1 (EV.glob CI.has g_signs (by kernel_rfl) (by kernel_rfl) (by kernel_rfl) (by kernel_rfl)) (EVs.cons (EV.as (EV.binop (a := .int (m : Nat)) (b := .int 511) (EV.locK at_here (by kernel_rfl) (by kernel_rfl) (by kernel_rfl)) EV.int OpV.xor_int) (congrArg PV.int (bitXor_nat m 511))) EVs.nil rfl) CI.has rfl rfl
  have hrl := row_len ns
  refine SX.assign (pv := .list (PVn (rowN ns))) (EV.as (EV.binop (a := .list ([0, 1, 0, 0, 1, 0, 0].map PV.int)) (b := .list ((ns.take 5).map fun x => PV.int (x.fmod 3))) (EV.list ?k1 (by simp [sizeLine])) (EV.weak (EV.compI (ns := ns.take 5) (g := fun n => .int (n.fmod 3)) (fun n => rfl) [] (ItV.listV hA13.1 (EV.as (EV.weak (EVN.ev (EVN.sliceUp (l := ns.map .int) (n := 5) ?k2 EV.int (by simp [sizeLine]; omega) (fun _ _ => rfl)))) (congrArg PV.list List.map_take.symm))) FI.has (fun s F x pv e => by cases e) rfl ?k3 rfl ?k4 ?k5 (by simp [sizeLine]; omega) ?k6)) (OpV.add_list (by simp [sizeLine]; omega))) (congrArg PV.list (row_pv ns).symm)) ?k7 ?k8 ?k9 ?_
  case k1 => 
    show EVs _ _ _ _ _ _ [.int 0, .int 1, .int 0, .int 0, .int 1, .int 0, .int 0]
    walk_at "evs"
  case k2 => walk_at "ev"
  case k3 => decide +kernel
  case k4 => decide +kernel
  case k5 => kernel_rfl
  case k6 =>
    intro s' C n hn
    exact EV.binop (a := .int n) (b := .int 3) (EV.locK at_here (by kernel_rfl) (by kernel_rfl) (by kernel_rfl)) EV.int (OpV.mod_int (by decide))
  case k7 => kernel_rfl
  case k8 => rfl
  case k9 => rfl
  have hrow3 : ∀ n ∈ (rowN ns).map fun (k : Nat) => Int.ofNat k, ∃ k : Nat, n = (k : Int) ∧ k < 3 := fun n hn => by
    obtain ⟨k, hk, rfl⟩ := List.mem_map.mp hn
    exact ⟨k, rfl, row_lt ns k hk⟩
  have hfl : (figP ns).flatten.length = 4 * (rowN ns).length := by rw [flat_len _ (fig4 ns)]; simp [figP]
  refine SX.assign (pv := .str (S (figP ns).flatten)) (EV.as (EV.join (x := S []) (ys := (figP ns).map S) (EV.strS (by decide +kernel)) (EV.as (EV.weak (EV.compI (ns := (rowN ns).map fun (k : Nat) => Int.ofNat k) (g := fun n => .str (S (hexs (msAt ns n.toNat)))) (fun n => rfl) [(Str.ofString "modes", .list ((msI ns).map .int))] (ItV.listV hA13.1 (EV.as ?l1 (congrArg PV.list (row_ofNat ns)))) FI.has ?l2 rfl ?l3 rfl ?l4 ?l5 (by simp [sizeLine]; omega) ?l6)) (congrArg PV.list (fig_list ns))) ?l7) (congrArg PV.str (join_S (figP ns)))) ?l8 ?l9 ?l10 ?_
  case l1 => walk_at "ev"
  case l2 =>
    intro s' F x pv e
    obtain ⟨cv, X, r⟩ := FIP.cel F
    simp only [List.lookup_cons, List.lookup_nil] at e
    cases hb : x == Str.ofString "modes" with
    | false => rw [hb] at e; cases e
    | true =>
      rw [hb] at e; cases e
      rw [eq_of_beq hb]
      obtain ⟨v, hv, rv⟩ := r (Str.ofString "modes") (.list ((msI ns).map .int)) (by walk_at "lk")
      exact ⟨L + 1, v, by kernel_rfl, hv ▸ X.cell _ _ (by kernel_rfl), rv⟩
  case l3 => decide +kernel
  case l4 => decide +kernel
  case l5 => kernel_rfl
  case l6 =>
    intro s' C n hn
    obtain ⟨k, rfl, hk⟩ := hrow3 n hn
    obtain ⟨hm1, hm2⟩ := ms_at (ns := ns) hk
    refine EV.fn (pc_law_figures w (msAt ns k) (by omega)) (fn_figures w) hA1 (EV.glob CI.has g_figures (by kernel_rfl) (by kernel_rfl) (by kernel_rfl) (by kernel_rfl)) (EVs.cons (EV.sub (a := .list ((msI ns).map .int)) (i := .int (k : Nat)) (EV.cellK at_here (by kernel_rfl) (by kernel_rfl) (by kernel_rfl)) (EV.locK at_here (by kernel_rfl) (by kernel_rfl) (by kernel_rfl)) (SubV.list (r := .int (msAt ns k : Nat)) (by rw [List.getElem?_map, hm1]; rfl) (by omega) (fun a u => by with_unfolding_all rfl) (fun a r => by with_unfolding_all rfl))) EVs.nil rfl) CI.has rfl rfl
  case l7 =>
    have h1 : (((figP ns).map S).map (·.length)).sum = 4 * (figP ns).length := by
      have : ∀ l : List (List Nat), (∀ y ∈ l, y.length = 4) → ((l.map S).map (·.length)).sum = 4 * l.length := by
        intro l
        induction l with
        | nil => intro _; rfl
        | cons y l ih =>
          intro h
          have h1 := ih fun z hz => h z (.tail _ hz)
          have h2 := h y (.head _)
          simp only [List.map_cons, List.sum_cons, S_length, List.length_cons, h2, h1]; omega
      exact this _ (fig4 ns)
    have h2 : (figP ns).length ≤ 12 := by simp [figP]; omega
    rw [h1]
    have h3 : (S []).length = 0 := rfl
    rw [h3, Nat.mul_zero]
    omega
  case l8 => kernel_rfl
  case l9 => rfl
  case l10 => rfl
  intro s3 F3
  refine law_loop w _ hA13 ns L s s3 base _ (FIP.weakC (FIP.weaken F3 fun q hq => ?_) fun q hq => ?_) fun s4 F4 => law_mid w _ hA13 ns j1 j2 p stp L s s4 base hfr' hL g F4 hj1 hj2 hst hper hmax hc0 hc hcut
  · simp only [mLp, List.mem_cons, List.not_mem_nil, or_false] at hq
    rcases hq with rfl | rfl | rfl | rfl <;> walk_at "lk"
  · simp only [List.mem_cons, List.not_mem_nil, or_false] at hq
    rcases hq with rfl
    walk_at "lk"
end
end Mine
end
section
namespace Mine
/-- words by the order of their letters; a beginning of a word stands before it -/
noncomputable def lx (lt : Nat → Nat → Bool) : List Nat → List Nat → Bool
  | [], [] => false
  | [], _ :: _ => true
  | _ :: _, [] => false
  | a :: u, b :: v => if a = b then lx lt u v else lt a b
theorem lx_app (lt : Nat → Nat → Bool) : ∀ w u v, lx lt (w ++ u) (w ++ v) = lx lt u v
  | [], u, v => rfl
  | a :: w, u, v => by
    show lx lt (a :: (w ++ u)) (a :: (w ++ v)) = _
    rw [show lx lt (a :: (w ++ u)) (a :: (w ++ v)) = if a = a then lx lt (w ++ u) (w ++ v) else lt a a from rfl, if_pos rfl]
    exact lx_app lt w u v
theorem lx_nil (lt : Nat → Nat → Bool) (u : List Nat) : lx lt u [] = false := by cases u <;> rfl
theorem lx_asym {lt : Nat → Nat → Bool} {D : Nat → Prop} (has : ∀ a b, D a → D b → lt a b = true → lt b a = false) : ∀ u v, (∀ a ∈ u, D a) → (∀ a ∈ v, D a) → lx lt u v = true → lx lt v u = false
  | [], [], _, _, h => by simp [lx] at h
  | [], b :: v, _, _, _ => rfl
  | a :: u, [], _, _, h => by simp [lx] at h
  | a :: u, b :: v, hu, hv, h => by
    unfold lx at h ⊢
    by_cases e : a = b
    · rw [if_pos e] at h; rw [if_pos e.symm]
      exact lx_asym has u v (fun c hc => hu c (.tail _ hc)) (fun c hc => hv c (.tail _ hc)) h
    · rw [if_neg e] at h; rw [if_neg (fun q => e q.symm)]
      exact has a b (hu a (.head _)) (hv b (.head _)) h
/-- before it in both orders: a beginning of it -/
theorem lx_both {lt gt : Nat → Nat → Bool} {D : Nat → Prop} (has : ∀ a b, D a → D b → lt a b = true → gt a b = true → False) : ∀ u v, (∀ a ∈ u, D a) → (∀ a ∈ v, D a) → lx lt u v = true → lx gt u v = true → u <+: v
  | [], v, _, _, _, _ => List.nil_prefix
  | a :: u, [], _, _, h, _ => by simp [lx] at h
  | a :: u, b :: v, hu, hv, h, h' => by
    unfold lx at h h'
    by_cases e : a = b
    · rw [if_pos e] at h h'
      subst e
      exact List.cons_prefix_cons.mpr ⟨rfl, lx_both has u v (fun c hc => hu c (.tail _ hc)) (fun c hc => hv c (.tail _ hc)) h h'⟩
    · rw [if_neg e] at h h'
      exact (has a b (hu a (.head _)) (hv b (.head _)) h h').elim
/-- a step by which a word goes on like itself -/
noncomputable def Per (x : List Nat) (p : Nat) : Prop := ∀ i, i + p < x.length → x[i]? = x[i + p]?
/-- a step by which it does so across a cut -/
noncomputable def Acr (x : List Nat) (c p : Nat) : Prop := ∀ i, c ≤ i + p → i < c → i + p < x.length → x[i]? = x[i + p]?
theorem Per.acr {x : List Nat} {c p : Nat} (h : Per x p) : Acr x c p := fun i _ _ h3 => h i h3
noncomputable def MaxAt (lt : Nat → Nat → Bool) (x : List Nat) (j : Nat) : Prop := j < x.length ∧ ∀ i, i < x.length → i ≠ j → lx lt (x.drop i) (x.drop j) = true
theorem mem_drop' {x : List Nat} {i a : Nat} (h : a ∈ x.drop i) : a ∈ x := List.mem_of_mem_drop h
theorem get_app {x y : List Nat} {a b : Nat} (h : x.drop a = x.drop a) : True := trivial
/-- the later of the two greatest ends begins at a cut where every step is a period -/
theorem crit1 {lt gt : Nat → Nat → Bool} {D : Nat → Prop} (h1 : ∀ a b, D a → D b → lt a b = true → lt b a = false) (h2 : ∀ a b, D a → D b → lt a b = true → gt a b = true → False)
    {x : List Nat} (hD : ∀ a ∈ x, D a) {c j r : Nat} (hc : MaxAt lt x c) (hj : MaxAt gt x j) (hjc : j ≤ c) (hr : 0 < r) (ha : Acr x c r) : Per x r := by
  obtain ⟨hcn, hcm⟩ := hc
  obtain ⟨hjn, hjm⟩ := hj
  by_cases hrc : r ≤ c
  · exfalso
    -- the word of length r ahead of the cut
    have hwl : ((x.drop (c - r)).take r).length = r := by simp; omega
    have hsp : x.drop (c - r) = (x.drop (c - r)).take r ++ x.drop c := by
      have := List.take_append_drop r (x.drop (c - r))
      rw [List.drop_drop, show c - r + r = c by omega] at this
      exact this.symm
    have hm := hcm (c - r) (by omega) (by omega)
    generalize hw : (x.drop (c - r)).take r = w at hwl hsp
    rw [hsp] at hm
    have hwv : ∀ i, i < r → c + i < x.length → w[i]? = (x.drop c)[i]? := fun i hi hi2 => by
      have := ha (c - r + i) (by omega) (by omega) (by omega)
      rw [show c - r + i + r = c + i by omega] at this
      rw [← hw, List.getElem?_take_of_lt hi, List.getElem?_drop, List.getElem?_drop]; exact this
    by_cases hlen : c + r ≤ x.length
    · -- the word is a beginning of what is behind the cut
      have e : (x.drop c).take r = w := by
        refine List.ext_getElem? fun i => ?_
        by_cases hi : i < r
        · rw [List.getElem?_take_of_lt hi, hwv i hi (by omega)]
        · rw [List.getElem?_eq_none (by simp; omega), List.getElem?_eq_none (by omega)]
      have hv : x.drop c = w ++ x.drop (c + r) := by
        have := List.take_append_drop r (x.drop c)
        rw [e, List.drop_drop] at this
        exact this.symm
      rw [show w ++ x.drop c = w ++ x.drop c from rfl] at hm
      have hm2 : lx lt (x.drop c) (x.drop (c + r)) = true := by
        rw [show lx lt (w ++ x.drop c) (x.drop c) = lx lt (w ++ x.drop c) (w ++ x.drop (c + r)) from congrArg _ hv, lx_app] at hm
        exact hm
      by_cases hz : c + r < x.length
      · have := hcm (c + r) hz (by omega)
        have h3 := lx_asym h1 _ _ (fun a h => hD a (mem_drop' h)) (fun a h => hD a (mem_drop' h)) hm2
        rw [this] at h3; cases h3
      · rw [List.drop_of_length_le (show x.length ≤ c + r by omega), lx_nil] at hm2; cases hm2
    · -- what is behind the cut is a beginning of the word
      have e : w.take (x.length - c) = x.drop c := by
        refine List.ext_getElem? fun i => ?_
        by_cases hi : i < x.length - c
        · rw [List.getElem?_take_of_lt hi, hwv i (by omega) (by omega)]
        · rw [List.getElem?_eq_none (by simp; omega), List.getElem?_eq_none (by simp; omega)]
      have hw2 : w = x.drop c ++ w.drop (x.length - c) := by
        have := List.take_append_drop (x.length - c) w
        rw [e] at this; exact this.symm
      have hm2 : lx lt (x.drop c ++ (w.drop (x.length - c) ++ x.drop c)) (x.drop c ++ []) = true := by
        rw [← List.append_assoc, ← hw2, List.append_nil]; exact hm
      rw [lx_app, lx_nil] at hm2; cases hm2
  · by_cases hlen : c + r < x.length
    · have hm := hcm (c + r) hlen (by omega)
      have hm2 := hjm (j + r) (by omega) (by omega)
      have hu : x.drop j = (x.drop j).take (c - j) ++ x.drop c := by
        have := List.take_append_drop (c - j) (x.drop j)
        rw [List.drop_drop, show j + (c - j) = c by omega] at this
        exact this.symm
      have hu2 : x.drop (j + r) = (x.drop (j + r)).take (c - j) ++ x.drop (c + r) := by
        have := List.take_append_drop (c - j) (x.drop (j + r))
        rw [List.drop_drop, show j + r + (c - j) = c + r by omega] at this
        exact this.symm
      have e : (x.drop (j + r)).take (c - j) = (x.drop j).take (c - j) := by
        refine List.ext_getElem? fun i => ?_
        by_cases hi : i < c - j
        · rw [List.getElem?_take_of_lt hi, List.getElem?_take_of_lt hi, List.getElem?_drop, List.getElem?_drop, show j + r + i = j + i + r by omega]
          exact (ha (j + i) (by omega) (by omega) (by omega)).symm
        · rw [List.getElem?_eq_none (by simp; omega), List.getElem?_eq_none (by simp; omega)]
      rw [e] at hu2
      have hm3 : lx gt (x.drop (c + r)) (x.drop c) = true := by
        rw [hu, hu2, lx_app] at hm2
        exact hm2
      obtain ⟨t, ht⟩ := lx_both h2 _ _ (fun a h => hD a (mem_drop' h)) (fun a h => hD a (mem_drop' h)) hm hm3
      intro i hi
      by_cases hic : i < c
      · exact ha i (by omega) hic hi
      · have q1 : (x.drop (c + r))[i - c]? = x[i + r]? := by rw [List.getElem?_drop, show c + r + (i - c) = i + r by omega]
        have q2 : (x.drop c)[i - c]? = x[i]? := by rw [List.getElem?_drop, show c + (i - c) = i by omega]
        rw [← q1, ← q2, ← ht, List.getElem?_append_left (by simp; omega)]
    · exact fun i hi => ha i (by omega) (by omega) hi
theorem crit {lt gt : Nat → Nat → Bool} {D : Nat → Prop} (h1 : ∀ a b, D a → D b → lt a b = true → lt b a = false) (h2 : ∀ a b, D a → D b → lt a b = true → gt a b = true → False) (h3 : ∀ a b, D a → D b → gt a b = true → gt b a = false)
    {x : List Nat} (hD : ∀ a ∈ x, D a) {j1 j2 r : Nat} (hc : MaxAt lt x j1) (hj : MaxAt gt x j2) (hr : 0 < r) (ha : Acr x (max j1 j2) r) : Per x r := by
  by_cases h : j2 ≤ j1
  · rw [Nat.max_eq_left h] at ha
    exact crit1 h1 h2 hD hc hj h hr ha
  · rw [Nat.max_eq_right (by omega)] at ha
    exact crit1 h3 (fun a b da db p q => h2 a b da db q p) hD hj hc (by omega) hr ha
theorem crit_pos {lt gt : Nat → Nat → Bool} {D : Nat → Prop} (h2 : ∀ a b, D a → D b → lt a b = true → gt a b = true → False)
    {x : List Nat} (hD : ∀ a ∈ x, D a) {j1 j2 a b : Nat} {t : List Nat} (hx : x = a :: b :: t) (hab : a ≠ b) (hc : MaxAt lt x j1) (hj : MaxAt gt x j2) : 0 < max j1 j2 := by
  by_cases h : 0 < max j1 j2
  · exact h
  · exfalso
    have e1 : j1 = 0 := by omega
    have e2 : j2 = 0 := by omega
    subst e1 e2 hx
    have p := hc.2 1 (by simp) (by decide)
    have q := hj.2 1 (by simp) (by decide)
    simp only [List.drop_succ_cons, List.drop_zero] at p q
    unfold lx at p q
    rw [if_neg (fun e => hab e.symm)] at p q
    exact h2 b a (hD b (by simp)) (hD a (by simp)) p q
/-- the first place below n, or n -/
noncomputable def fst' (f : Nat → Bool) (n : Nat) : Nat := ((List.range n).find? f).getD n
theorem fst_le (f : Nat → Bool) (n : Nat) : fst' f n ≤ n := by
  unfold fst'
  cases h : (List.range n).find? f with
  | none => simp
  | some a => have := List.mem_of_find?_eq_some h; simp at this ⊢; omega
theorem fst_at {f : Nat → Bool} {n : Nat} (h : fst' f n < n) : f (fst' f n) = true := by
  unfold fst' at h ⊢
  cases e : (List.range n).find? f with
  | none => rw [e] at h; simp at h
  | some a => have := List.find?_some e; simpa using this
theorem fst_low {f : Nat → Bool} {n i : Nat} (h : i < fst' f n) : f i = false := by
  have hn := fst_le f n
  unfold fst' at h hn
  cases e : (List.range n).find? f with
  | none =>
    rw [e] at h
    have := List.find?_eq_none.mp e i (by simp at h ⊢; omega)
    simpa using this
  | some a =>
    rw [e] at h
    simp at h
    obtain ⟨_, as, bs, e1, e2⟩ := List.find?_eq_some_iff_append.mp e
    have hlen : as.length = a := by
      have h1 : (List.range n)[as.length]? = some a := by rw [e1]; simp
      have h2 := (List.getElem?_eq_some_iff.mp h1).2
      simpa using h2
    have h3 : as[i]? = some i := by
      have : (List.range n)[i]? = as[i]? := by rw [e1, List.getElem?_append_left (by omega)]
      rw [← this, List.getElem?_range (by have := List.mem_of_find?_eq_some e; simp at this; omega)]
    simpa using e2 i (List.mem_of_getElem? h3)
theorem fst_min {f : Nat → Bool} {n i : Nat} (h : f i = true) : fst' f n ≤ i := by
  by_cases q : fst' f n ≤ i
  · exact q
  · have h5 : f i = false := fst_low (Nat.lt_of_not_le q)
    rw [h5] at h; cases h
/-- the period -/
noncomputable def perB (x : List Nat) (p : Nat) : Bool := (x.drop p).isPrefixOf x
theorem perB_iff {x : List Nat} {p : Nat} : perB x p = true ↔ Per x p := by
  unfold perB Per
  rw [List.isPrefixOf_iff_prefix]
  constructor
  · rintro ⟨t, ht⟩ i hi
    have : x[i]? = (x.drop p)[i]? := by
      rw [show x[i]? = (x.drop p ++ t)[i]? from congrArg (·[i]?) ht.symm, List.getElem?_append_left (by simp; omega)]
    rw [this, List.getElem?_drop, Nat.add_comm]
  · intro h
    refine List.prefix_iff_eq_take.mpr (List.ext_getElem? fun i => ?_)
    by_cases hi : i + p < x.length
    · rw [List.getElem?_take_of_lt (by simp; omega), List.getElem?_drop, Nat.add_comm, h i hi]
    · rw [List.getElem?_eq_none (by simp; omega), List.getElem?_eq_none (by simp; omega)]
noncomputable def PN (x : List Nat) : Nat := fst' (fun i => perB x (i + 1)) (x.length - 1) + 1
theorem PN_per {x : List Nat} (h : 0 < x.length) : Per x (PN x) := by
  unfold PN
  have hl := fst_le (fun i => perB x (i + 1)) (x.length - 1)
  by_cases q : fst' (fun i => perB x (i + 1)) (x.length - 1) < x.length - 1
  · exact perB_iff.mp (fst_at q)
  · intro i hi; omega
theorem PN_min {x : List Nat} {p : Nat} (hp : 0 < p) (h : Per x p) : PN x ≤ p := by
  have := fst_min (f := fun i => perB x (i + 1)) (n := x.length - 1) (i := p - 1) (by show perB x (p - 1 + 1) = true; rw [show p - 1 + 1 = p by omega]; exact perB_iff.mpr h)
  unfold PN; omega
/-- like itself across a cut -/
noncomputable def acB (t : List Nat) (cut step : Nat) : Bool := decide (min cut (t.length - step) ≤ cut - step) || ((t.drop (cut - step + step)).take (min cut (t.length - step) - (cut - step)) == (t.drop (cut - step)).take (min cut (t.length - step) - (cut - step)))
theorem acB_iff {x : List Nat} {c p : Nat} (hp : p ≤ x.length) : acB x c p = true ↔ Acr x c p := by
  unfold acB Acr
  rw [Bool.or_eq_true, decide_eq_true_eq, beq_iff_eq]
  constructor
  · rintro (h | h) i h1 h2 h3
    · omega
    · have := congrArg (fun l : List Nat => l[i - (c - p)]?) h
      rw [List.getElem?_take_of_lt (by omega), List.getElem?_take_of_lt (by omega), List.getElem?_drop, List.getElem?_drop, show c - p + p + (i - (c - p)) = i + p by omega, show c - p + (i - (c - p)) = i by omega] at this
      exact this.symm
  · intro h
    by_cases q : min c (x.length - p) ≤ c - p
    · exact .inl q
    · right
      refine List.ext_getElem? fun i => ?_
      by_cases hi : i < min c (x.length - p) - (c - p)
      · rw [List.getElem?_take_of_lt hi, List.getElem?_take_of_lt hi, List.getElem?_drop, List.getElem?_drop, show c - p + p + i = c - p + i + p by omega]
        exact (h (c - p + i) (by omega) (by omega) (by omega)).symm
      · rw [List.getElem?_eq_none (by simp; omega), List.getElem?_eq_none (by simp; omega)]
noncomputable def AN (x : List Nat) (c : Nat) : Nat := fst' (fun i => acB x c (i + 1)) (x.length - 1) + 1
theorem AN_acr {x : List Nat} {c : Nat} (h : 0 < x.length) : Acr x c (AN x c) := by
  unfold AN
  have hl := fst_le (fun i => acB x c (i + 1)) (x.length - 1)
  by_cases q : fst' (fun i => acB x c (i + 1)) (x.length - 1) < x.length - 1
  · exact (acB_iff (by omega)).mp (fst_at q)
  · intro i h1 h2 h3; omega
theorem AN_le {x : List Nat} {c : Nat} (h : 0 < x.length) : AN x c ≤ PN x := by
  have hp := PN_per h
  have hle : PN x ≤ x.length := by have := fst_le (fun i => perB x (i + 1)) (x.length - 1); unfold PN; omega
  have h0 : 0 < PN x := Nat.succ_pos _
  have := fst_min (f := fun i => acB x c (i + 1)) (n := x.length - 1) (i := PN x - 1) (by show acB x c (PN x - 1 + 1) = true; rw [show PN x - 1 + 1 = PN x by omega]; exact (acB_iff hle).mpr hp.acr)
  unfold AN; omega
theorem AN_crit {lt gt : Nat → Nat → Bool} {D : Nat → Prop} (h1 : ∀ a b, D a → D b → lt a b = true → lt b a = false) (h2 : ∀ a b, D a → D b → lt a b = true → gt a b = true → False) (h3 : ∀ a b, D a → D b → gt a b = true → gt b a = false)
    {x : List Nat} (hD : ∀ a ∈ x, D a) {j1 j2 : Nat} (hc : MaxAt lt x j1) (hj : MaxAt gt x j2) : AN x (max j1 j2) = PN x := by
  have hx : 0 < x.length := by have := hc.1; omega
  exact Nat.le_antisymm (AN_le hx) (PN_min (Nat.succ_pos _) (crit h1 h2 h3 hD hc hj (Nat.succ_pos _) (AN_acr hx)))
end Mine
end
section
namespace Mine
/-- the path of a word of letters, a name for each letter -/
noncomputable def pth (f : Nat → List Nat) : List Nat → List Nat
  | [] => []
  | a :: l => 47 :: (f a ++ pth f l)
noncomputable def ltf (f : Nat → List Nat) (a b : Nat) : Bool := decide (f a < f b)
theorem lt_app_ne : ∀ (p q s t : List Nat), p.length = q.length → p ≠ q → (p ++ s < q ++ t ↔ p < q)
  | [], [], _, _, _, h => absurd rfl h
  | [], _ :: _, _, _, h, _ => by simp at h
  | _ :: _, [], _, _, h, _ => by simp at h
  | a :: p, b :: q, s, t, h, hne => by
    show a :: (p ++ s) < b :: (q ++ t) ↔ _
    rw [List.cons_lt_cons_iff, List.cons_lt_cons_iff]
    by_cases e : a = b
    · subst e
      have := lt_app_ne p q s t (by simpa using h) (fun q => hne (by rw [q]))
      simp [this]
    · simp [e]
theorem lt_app_eq : ∀ (p s t : List Nat), (p ++ s < p ++ t ↔ s < t)
  | [], _, _ => Iff.rfl
  | a :: p, s, t => by
    show a :: (p ++ s) < a :: (p ++ t) ↔ _
    rw [List.cons_lt_cons_iff]
    simp [lt_app_eq p s t]
theorem pth_lt {f : Nat → List Nat} {D : Nat → Prop} (hl : ∀ a, (f a).length = 10) (hi : ∀ a b, D a → D b → f a = f b → a = b) : ∀ u v, (∀ a ∈ u, D a) → (∀ a ∈ v, D a) → (pth f u < pth f v ↔ lx (ltf f) u v = true)
  | [], [], _, _ => by simp [pth, lx]
  | [], b :: v, _, _ => by simp [pth, lx]
  | a :: u, [], _, _ => by simp [pth, lx]
  | a :: u, b :: v, hu, hv => by
    have ih := pth_lt hl hi u v (fun c hc => hu c (.tail _ hc)) (fun c hc => hv c (.tail _ hc))
    show 47 :: (f a ++ pth f u) < 47 :: (f b ++ pth f v) ↔ _
    rw [List.cons_lt_cons_iff]
    unfold lx
    by_cases e : a = b
    · subst e
      rw [if_pos rfl, lt_app_eq, ih]; simp
    · rw [if_neg e, lt_app_ne _ _ _ _ (by rw [hl, hl]) (fun q => e (hi a b (hu a (.head _)) (hv b (.head _)) q))]
      simp [ltf]
theorem pth_len {f : Nat → List Nat} (hl : ∀ a, (f a).length = 10) : ∀ u, (pth f u).length = 11 * u.length
  | [] => rfl
  | a :: u => by
    have := pth_len hl u
    simp [pth, hl, this]; omega
theorem ltf_asym (f : Nat → List Nat) (a b : Nat) (h : ltf f a b = true) : ltf f b a = false := by
  unfold ltf at h ⊢
  simp only [decide_eq_true_eq, decide_eq_false_iff_not] at h ⊢
  exact fun z => absurd (List.lt_trans h z) (List.lt_irrefl _)
/-- the best of some texts -/
noncomputable def bestI (bt : Nat → Nat → Bool) : Nat → Nat
  | 0 => 0
  | k + 1 => if bt (k + 1) (bestI bt k) then k + 1 else bestI bt k
theorem best_le (bt : Nat → Nat → Bool) : ∀ k, bestI bt k ≤ k
  | 0 => Nat.le_refl _
  | k + 1 => by
    have := best_le bt k
    unfold bestI
    split <;> omega
theorem best_spec {bt : Nat → Nat → Bool} {n : Nat} (htr : ∀ i j k, bt i j = true → bt j k = true → bt i k = true) (hto : ∀ i j, i ≤ n → j ≤ n → i ≠ j → bt i j = true ∨ bt j i = true) : ∀ k i, k ≤ n → i ≤ k → i ≠ bestI bt k → bt (bestI bt k) i = true
  | 0, i, _, h, hne => absurd (by unfold bestI; omega) hne
  | k + 1, i, hk, h, hne => by
    have ih := best_spec htr hto k
    have hb := best_le bt k
    unfold bestI at hne ⊢
    by_cases q : bt (k + 1) (bestI bt k) = true
    · rw [if_pos q] at hne ⊢
      by_cases e : i = bestI bt k
      · rw [e]; exact q
      · exact htr _ _ _ q (ih i (by omega) (by omega) e)
    · rw [if_neg q] at hne ⊢
      by_cases e : i = k + 1
      · subst e
        exact (hto _ _ hk (by omega) hne).resolve_left q
      · exact ih i (by omega) (by omega) hne
theorem list_tri : ∀ (u v : List Nat), u ≠ v → u < v ∨ v < u
  | [], [], h => absurd rfl h
  | [], _ :: _, _ => .inl (by simp)
  | _ :: _, [], _ => .inr (by simp)
  | a :: u, b :: v, h => by
    rw [List.cons_lt_cons_iff, List.cons_lt_cons_iff]
    rcases Nat.lt_trichotomy a b with q | q | q
    · exact .inl (.inl q)
    · subst q
      rcases list_tri u v (fun e => h (by rw [e])) with r | r
      · exact .inl (.inr ⟨rfl, r⟩)
      · exact .inr (.inr ⟨rfl, r⟩)
    · exact .inr (.inl q)
/-- the mirror of an order, letter by letter -/
inductive Mir : List Nat → List Nat → List Nat → List Nat → Prop
  | nil : Mir [] [] [] []
  | cons {a b c d : Nat} {u v x y : List Nat} (h1 : a < b → d < c) (h2 : a = b → c = d) (h : Mir u v x y) : Mir (a :: u) (b :: v) (c :: x) (d :: y)
theorem Mir.lt {u v x y : List Nat} (m : Mir u v x y) : u < v → y < x := by
  induction m with
  | nil => exact fun h => h
  | cons h1 h2 h ih =>
    intro q
    rw [List.cons_lt_cons_iff] at q ⊢
    rcases q with q | ⟨q, r⟩
    · exact .inl (h1 q)
    · exact .inr ⟨(h2 q).symm, ih r⟩
end Mine
end
section
namespace Mine
theorem Mir.app {u v x y u' v' x' y' : List Nat} (m : Mir u v x y) (m' : Mir u' v' x' y') : Mir (u ++ u') (v ++ v') (x ++ x') (y ++ y') := by
  induction m with
  | nil => exact m'
  | cons h1 h2 h ih => exact .cons h1 h2 ih
theorem xor_hi (m : Nat) : (m ^^^ 511) / 512 = m / 512 := by
  rw [show (512 : Nat) = 2 ^ 9 from rfl, ← Nat.shiftRight_eq_div_pow, Nat.shiftRight_xor_distrib, Nat.shiftRight_eq_div_pow 511, Nat.div_eq_of_lt (by decide), Nat.xor_zero, Nat.shiftRight_eq_div_pow]
theorem xor_lo (m : Nat) : (m ^^^ 511) % 512 = 511 - m % 512 := by
  have h2 : (m ^^^ 511) % 512 = (m % 512) ^^^ 511 := by
    have := Nat.xor_mod_two_pow (a := m) (b := 511) (n := 9)
    simpa using this
  have h3 : ∀ x < 512, x ^^^ 511 = 511 - x := by decide +kernel
  rw [h2, h3 _ (Nat.mod_lt _ (by decide))]
theorem fig_low9 (m : Nat) : fig m 6 = fig (m % 512) 6 ∧ fig m 3 = fig (m % 512) 3 ∧ fig m 0 = fig (m % 512) 0 := by
  unfold fig
  refine ⟨?_, ?_, ?_⟩
  · rw [show (512 : Nat) = 2 ^ 6 * 8 from rfl, Nat.mod_mul_right_div_self, Nat.mod_mod_of_dvd _ (by decide : 8 ∣ 8)]
  · rw [show (512 : Nat) = 2 ^ 3 * 64 from rfl, Nat.mod_mul_right_div_self, Nat.mod_mod_of_dvd _ (by decide : 8 ∣ 64)]
  · rw [show (512 : Nat) = 2 ^ 0 * 512 from rfl, Nat.mod_mul_right_div_self, Nat.mod_mod_of_dvd _ (by decide : 8 ∣ 512)]
theorem fig_turn (m : Nat) : fig (m ^^^ 511) 6 = 7 - fig m 6 ∧ fig (m ^^^ 511) 3 = 7 - fig m 3 ∧ fig (m ^^^ 511) 0 = 7 - fig m 0 := by
  obtain ⟨a1, a2, a3⟩ := fig_low9 m
  obtain ⟨b1, b2, b3⟩ := fig_low9 (m ^^^ 511)
  rw [a1, a2, a3, b1, b2, b3, xor_lo]
  have h : ∀ x < 512, fig (511 - x) 6 = 7 - fig x 6 ∧ fig (511 - x) 3 = 7 - fig x 3 ∧ fig (511 - x) 0 = 7 - fig x 0 := by decide +kernel
  exact h _ (Nat.mod_lt _ (by decide))
theorem sp_turn1 (m k : Nat) : sp (m ^^^ 511) k = sp m k := by
  unfold sp
  rw [Nat.pow_add, ← Nat.div_div_eq_div_mul, ← Nat.div_div_eq_div_mul, show (2 : Nat) ^ 9 = 512 from rfl, xor_hi]
theorem sp_turn (m : Nat) : sp (m ^^^ 511) 6 = sp m 6 ∧ sp (m ^^^ 511) 3 = sp m 3 ∧ sp (m ^^^ 511) 0 = sp m 0 := ⟨sp_turn1 m 6, sp_turn1 m 3, sp_turn1 m 0⟩
noncomputable def t3 (k f : Nat) (s : Bool) : List Nat :=
  [if f > 3 then 114 else 45, if f / 2 % 2 = 1 then 119 else 45,
    if s then (if k > 0 then (if f % 2 = 1 then 115 else 83) else (if f % 2 = 1 then 116 else 84)) else (if f % 2 = 1 then 120 else 45)]
theorem tri_t3 (m k : Nat) : tri m k = t3 k (fig m k) (sp m k) := rfl
theorem t3_mir {k f g : Nat} (s t : Bool) (hk : k = 6 ∨ k = 3 ∨ k = 0) (hf : f < 8) (hg : g < 8) : Mir (t3 k f s) (t3 k g t) (t3 k (7 - f) s) (t3 k (7 - g) t) := by
  have a1 : ∀ f < 8, ∀ g < 8, (((if f > 3 then 114 else 45) < (if g > 3 then 114 else 45) → (if 7 - g > 3 then 114 else 45) < (if 7 - f > 3 then 114 else 45)) ∧ ((if f > 3 then 114 else 45) = (if g > 3 then 114 else 45) → (if 7 - f > 3 then 114 else 45) = (if 7 - g > 3 then 114 else 45))) := by decide +kernel
  have a2 : ∀ f < 8, ∀ g < 8, (((if f / 2 % 2 = 1 then 119 else 45) < (if g / 2 % 2 = 1 then 119 else 45) → (if (7 - g) / 2 % 2 = 1 then 119 else 45) < (if (7 - f) / 2 % 2 = 1 then 119 else 45)) ∧ ((if f / 2 % 2 = 1 then 119 else 45) = (if g / 2 % 2 = 1 then 119 else 45) → (if (7 - f) / 2 % 2 = 1 then 119 else 45) = (if (7 - g) / 2 % 2 = 1 then 119 else 45))) := by decide +kernel
  have a3 : ∀ k ∈ [6, 3, 0], ∀ f < 8, ∀ g < 8, ∀ s t : Bool,
    ((if s then (if k > 0 then (if f % 2 = 1 then 115 else 83) else (if f % 2 = 1 then 116 else 84)) else (if f % 2 = 1 then 120 else 45)) < (if t then (if k > 0 then (if g % 2 = 1 then 115 else 83) else (if g % 2 = 1 then 116 else 84)) else (if g % 2 = 1 then 120 else 45)) →
      (if t then (if k > 0 then (if (7 - g) % 2 = 1 then 115 else 83) else (if (7 - g) % 2 = 1 then 116 else 84)) else (if (7 - g) % 2 = 1 then 120 else 45)) < (if s then (if k > 0 then (if (7 - f) % 2 = 1 then 115 else 83) else (if (7 - f) % 2 = 1 then 116 else 84)) else (if (7 - f) % 2 = 1 then 120 else 45))) ∧
    ((if s then (if k > 0 then (if f % 2 = 1 then 115 else 83) else (if f % 2 = 1 then 116 else 84)) else (if f % 2 = 1 then 120 else 45)) = (if t then (if k > 0 then (if g % 2 = 1 then 115 else 83) else (if g % 2 = 1 then 116 else 84)) else (if g % 2 = 1 then 120 else 45)) →
      (if s then (if k > 0 then (if (7 - f) % 2 = 1 then 115 else 83) else (if (7 - f) % 2 = 1 then 116 else 84)) else (if (7 - f) % 2 = 1 then 120 else 45)) = (if t then (if k > 0 then (if (7 - g) % 2 = 1 then 115 else 83) else (if (7 - g) % 2 = 1 then 116 else 84)) else (if (7 - g) % 2 = 1 then 120 else 45))) := by decide +kernel
  have hk' : k ∈ [6, 3, 0] := by simpa using hk
  exact .cons (a1 f hf g hg).1 (a1 f hf g hg).2 (.cons (a2 f hf g hg).1 (a2 f hf g hg).2 (.cons (a3 k hk' f hf g hg s t).1 (a3 k hk' f hf g hg s t).2 .nil))
theorem t3_inj {k f g : Nat} {s t : Bool} (hk : k = 6 ∨ k = 3 ∨ k = 0) (hf : f < 8) (hg : g < 8) (h : t3 k f s = t3 k g t) : f = g ∧ s = t := by
  have : ∀ k ∈ [6, 3, 0], ∀ f < 8, ∀ g < 8, ∀ s t : Bool, t3 k f s = t3 k g t → f = g ∧ s = t := by decide +kernel
  exact this k (by simpa using hk) f hf g hg s t h
theorem fig_lt (m k : Nat) : fig m k < 8 := Nat.mod_lt _ (by decide)
theorem t3_len (k f : Nat) (s : Bool) : (t3 k f s).length = 3 := rfl
theorem turn_kind {m : Nat} : (m ^^^ 511) / 4096 = m / 4096 := by
  rw [show (4096 : Nat) = 512 * 8 from rfl, ← Nat.div_div_eq_div_mul, ← Nat.div_div_eq_div_mul, xor_hi]
theorem sg_mir {a b : Nat} (hk : a / 4096 = b / 4096) : Mir (sgL a) (sgL b) (sgL (a ^^^ 511)) (sgL (b ^^^ 511)) := by
  unfold sgL
  rw [turn_kind, turn_kind, hk]
  obtain ⟨a1, a2, a3⟩ := fig_turn a
  obtain ⟨b1, b2, b3⟩ := fig_turn b
  obtain ⟨c1, c2, c3⟩ := sp_turn a
  obtain ⟨d1, d2, d3⟩ := sp_turn b
  simp only [tri_t3, a1, a2, a3, b1, b2, b3, c1, c2, c3, d1, d2, d3]
  exact .cons (fun h => absurd h (Nat.lt_irrefl _)) (fun _ => rfl) (((t3_mir _ _ (.inl rfl) (fig_lt _ _) (fig_lt _ _)).app (t3_mir _ _ (.inr (.inl rfl)) (fig_lt _ _) (fig_lt _ _))).app (t3_mir _ _ (.inr (.inr rfl)) (fig_lt _ _) (fig_lt _ _)))
theorem bit_eq {x y : Nat} (hx : x < 2) (hy : y < 2) (h : (x == 1) = (y == 1)) : x = y := by
  rw [Bool.eq_iff_iff] at h
  simp only [beq_iff_eq] at h
  omega
theorem modes_of (m : Nat) : m = m / 4096 * 4096 + m / 2 ^ (9 + 6 / 3) % 2 * 2048 + m / 2 ^ (9 + 3 / 3) % 2 * 1024 + m / 2 ^ (9 + 0 / 3) % 2 * 512 + fig m 6 * 64 + fig m 3 * 8 + fig m 0 := by
  unfold fig
  simp only [Nat.reducePow, Nat.reduceDiv, Nat.reduceAdd, Nat.div_one]
  omega
theorem sg_inj {a b : Nat} (hk : a / 4096 = b / 4096) (h : sgL a = sgL b) : a = b := by
  unfold sgL at h
  simp only [tri_t3] at h
  have h1 := (List.cons.inj h).2
  obtain ⟨h2, h3⟩ := List.append_inj' h1 (by simp [t3_len])
  obtain ⟨h4, h5⟩ := List.append_inj' h2 (by simp [t3_len])
  obtain ⟨p1, q1⟩ := t3_inj (.inl rfl) (fig_lt _ _) (fig_lt _ _) h4
  obtain ⟨p2, q2⟩ := t3_inj (.inr (.inl rfl)) (fig_lt _ _) (fig_lt _ _) h5
  obtain ⟨p3, q3⟩ := t3_inj (.inr (.inr rfl)) (fig_lt _ _) (fig_lt _ _) h3
  have s1 := bit_eq (Nat.mod_lt (a / 2 ^ (9 + 6 / 3)) (by decide)) (Nat.mod_lt (b / 2 ^ (9 + 6 / 3)) (by decide)) q1
  have s2 := bit_eq (Nat.mod_lt (a / 2 ^ (9 + 3 / 3)) (by decide)) (Nat.mod_lt (b / 2 ^ (9 + 3 / 3)) (by decide)) q2
  have s3 := bit_eq (Nat.mod_lt (a / 2 ^ (9 + 0 / 3)) (by decide)) (Nat.mod_lt (b / 2 ^ (9 + 0 / 3)) (by decide)) q3
  rw [modes_of a, modes_of b, hk, s1, s2, s3, p1, p2, p3]
theorem t3_no47 {k f : Nat} {s : Bool} (hf : f < 8) (hk : k = 6 ∨ k = 3 ∨ k = 0) : 47 ∉ t3 k f s := by
  have : ∀ k ∈ [6, 3, 0], ∀ f < 8, ∀ s : Bool, 47 ∉ t3 k f s := by decide +kernel
  exact this k (by simpa using hk) f hf s
theorem kind_no47 (n : Nat) : kindC n ≠ 47 := by
  unfold kindC
  rw [List.getD_eq_getElem?_getD]
  cases h : kindL[n]? with
  | none => decide
  | some c =>
    have := List.mem_of_getElem? h
    have h2 : ∀ c ∈ kindL, c ≠ 47 := by decide
    exact h2 c this
theorem sg_no47 (m : Nat) : 47 ∉ sgL m := by
  unfold sgL
  simp only [tri_t3, List.mem_cons, List.mem_append, not_or]
  exact ⟨fun h => kind_no47 _ h.symm, ⟨t3_no47 (fig_lt _ _) (.inl rfl), t3_no47 (fig_lt _ _) (.inr (.inl rfl))⟩, t3_no47 (fig_lt _ _) (.inr (.inr rfl))⟩
end Mine
end
section
open PySem PySem.W PyProof.Rows
namespace Mine
open Builtin Builtin.Str StrLaws
/-- where a sign stands -/
noncomputable def posOf (c : Nat) (a : Nat) : List Nat → List Nat
  | [] => []
  | x :: l => if x = c then a :: posOf c (a + 1) l else posOf c (a + 1) l
theorem occ_pos (X : Str) (c lim : Nat) : ∀ (l : List Nat) (a : Nat) (st : Array Nat × Nat), (∀ i, X.cps.toList[a + i]? = l[i]?) → st.2 ≤ a → st.1.size + l.length < lim →
    (forIn (List.range' a (l.length + 1)) st (occBody X ⟨#[c]⟩ X.length lim)).run.fst.toList = st.1.toList ++ posOf c a l
  | [], a, st, hx, h1, h2 => by
    rw [show ([] : List Nat).length + 1 = 1 from rfl, show List.range' a 1 = [a] from rfl, List.forIn_cons]
    unfold occBody
    have hn : ¬ (((st.1.size < lim ∧ st.2 ≤ a) ∧ a + (⟨#[c]⟩ : Str).length ≤ X.length) ∧ subAt X ⟨#[c]⟩ a = true) := fun h => by
      have := (subAt_one X c a).mp ⟨h.1.2, h.2⟩
      have h0 := hx 0
      rw [Nat.add_zero, this] at h0; simp at h0
    rw [if_neg hn]
    simp [posOf]
  | x :: l, a, st, hx, h1, h2 => by
    rw [show (x :: l).length + 1 = (l.length + 1) + 1 from rfl, List.range'_succ, List.forIn_cons]
    have hx' : ∀ i, X.cps.toList[a + 1 + i]? = l[i]? := fun i => by
      have := hx (i + 1)
      rw [show a + (i + 1) = a + 1 + i by omega] at this
      simpa using this
    have h0 : X.cps.toList[a]? = some x := by have := hx 0; simpa using this
    have hl : (x :: l).length = l.length + 1 := rfl
    rw [hl] at h2
    unfold occBody
    by_cases e : x = c
    · subst e
      have hs := (subAt_one X x a).mpr h0
      rw [if_pos ⟨⟨⟨by omega, h1⟩, hs.1⟩, hs.2⟩]
      have ih := occ_pos X x lim l (a + 1) (st.1.push a, a + (⟨#[x]⟩ : Str).length) hx' (Nat.le_refl _) (by simp; omega)
      simp only [posOf, if_true]
      refine Eq.trans ih ?_
      simp
    · have hn : ¬ (((st.1.size < lim ∧ st.2 ≤ a) ∧ a + (⟨#[c]⟩ : Str).length ≤ X.length) ∧ subAt X ⟨#[c]⟩ a = true) := fun h => by
        have := (subAt_one X c a).mp ⟨h.1.2, h.2⟩
        rw [h0] at this; exact e (Option.some.inj this)
      rw [if_neg hn]
      have ih := occ_pos X c lim l (a + 1) st hx' (by omega) (by omega)
      simp only [posOf, if_neg e]
      exact ih
theorem occ_one (l : List Nat) (c : Nat) : occurrences (S l) ⟨#[c]⟩ 0 (S l).length ((S l).length + 1) = posOf c 0 l := by
  rw [occ_eq]
  have := occ_pos (S l) c ((S l).length + 1) l 0 (#[], 0) (fun i => by rw [Nat.zero_add]; rfl) (Nat.le_refl _) (by rw [S_length]; simp)
  rw [S_length] at this ⊢
  rw [Nat.sub_zero]
  simpa using this
theorem pos_skip (c : Nat) : ∀ (p q : List Nat) (a : Nat), c ∉ p → posOf c a (p ++ q) = posOf c (a + p.length) q
  | [], q, a, _ => rfl
  | x :: p, q, a, h => by
    show posOf c a (x :: (p ++ q)) = _
    simp only [posOf]
    rw [if_neg (fun e => h (by rw [e]; exact .head _)), pos_skip c p q (a + 1) (fun m => h (.tail _ m))]
    simp only [List.length_cons]
    congr 1; omega
section
variable {f : Nat → List Nat} (hl : ∀ a, (f a).length = 10) (hn : ∀ a, 47 ∉ f a)
include hl hn
theorem pos_pth : ∀ (u : List Nat) (a : Nat), posOf 47 a (pth f u) = (List.range u.length).map fun k => a + 11 * k
  | [], a => rfl
  | b :: u, a => by
    show posOf 47 a (47 :: (f b ++ pth f u)) = _
    simp only [posOf, if_true]
    rw [pos_skip _ _ _ _ (hn b), pos_pth u, hl, List.length_cons, List.range_succ_eq_map, List.map_cons, List.map_map]
    congr 1
    refine List.map_congr_left fun k _ => ?_
    simp only [Function.comp]; omega
theorem parts_pth (X : List Nat) : ∀ (u : List Nat) (s a : Nat), X.drop a = pth f u → a ≤ X.length →
    ((s :: (posOf 47 a (pth f u)).map (· + 1)).zip (posOf 47 a (pth f u) ++ [X.length])).map (fun (p : Nat × Nat) => strSub (S X) p.1 p.2) = strSub (S X) s a :: u.map fun b => S (f b)
  | [], s, a, h, ha => by
    have : X.length ≤ a := List.drop_eq_nil_iff.mp h
    have e : a = X.length := by omega
    subst e
    rfl
  | b :: u, s, a, h, ha => by
    have h' : X.drop a = 47 :: (f b ++ pth f u) := h
    have hlen : X.length - a = 11 + (pth f u).length := by
      have := congrArg List.length h'
      simp [hl] at this; omega
    have hd : X.drop (a + 11) = pth f u := by
      have := congrArg (List.drop 11) h'
      rw [List.drop_drop] at this
      rw [this]
      show (f b ++ pth f u).drop 10 = _
      rw [List.drop_append_of_le_length (by rw [hl]; exact Nat.le_refl _), List.drop_of_length_le (by rw [hl]; exact Nat.le_refl _), List.nil_append]
    have ht : strSub (S X) (a + 1) (a + 11) = S (f b) := by
      have : (strSub (S X) (a + 1) (a + 11)).cps.toList = f b := by
        rw [strSub_toList, show a + 11 - (a + 1) = 10 by omega]
        show ((X.drop (a + 1)).take 10) = _
        rw [← List.drop_drop, h']
        show (f b ++ pth f u).take 10 = _
        rw [List.take_append_of_le_length (by rw [hl]; exact Nat.le_refl _), List.take_of_length_le (by rw [hl]; exact Nat.le_refl _)]
      rw [← S_self (strSub (S X) (a + 1) (a + 11)), this]
    have ih := parts_pth X u (a + 1) (a + 11) hd (by omega)
    have e : posOf 47 a (pth f (b :: u)) = a :: posOf 47 (a + 11) (pth f u) := by
      show posOf 47 a (47 :: (f b ++ pth f u)) = _
      simp only [posOf, if_true]
      rw [pos_skip _ _ _ _ (hn b), hl]
    rw [e, List.map_cons, List.cons_append, List.zip_cons_cons, List.map_cons, List.map_cons, ih, ht]
theorem split_pth (u : List Nat) (hu : 0 < u.length) : Txt.split (S (pth f u)) (S [47]) = S [] :: u.map fun b => S (f b) := by
  have hlen : (S (pth f u)).length = 11 * u.length := by rw [S_length, pth_len hl]
  have hk : Builtin.Str.strKind (S [47]) = 1 := by decide +kernel
  have hk2 : 1 ≤ Builtin.Str.strKind (S (pth f u)) := by
    unfold Builtin.Str.strKind; split <;> (try split) <;> decide
  have ho := occ_one (pth f u) 47
  have hne : posOf 47 0 (pth f u) ≠ [] := by
    rw [pos_pth hl hn]; intro q
    have := congrArg List.length q
    simp at this; subst this; simp at hu
  unfold Txt.split
  rw [if_neg (by rw [hlen, hk]; simp only [Bool.or_eq_true, decide_eq_true_eq]; show ¬ (11 * u.length < 1 ∨ _); omega)]
  rw [show (S [47]) = (⟨#[47]⟩ : Str) from rfl, ho, if_neg (by simpa using hne)]
  have := parts_pth hl hn (pth f u) u 0 0 rfl (Nat.zero_le _)
  rw [show strSub (S (pth f u)) 0 0 = S [] from by rw [← S_self (strSub _ _ _), strSub_toList]; simp] at this
  unfold partsBetween
  rw [S_length]
  exact this
theorem parts_len (u : List Nat) : (partsBetween (S (pth f u)) (occurrences (S (pth f u)) (S [47]) 0 (S (pth f u)).length ((S (pth f u)).length + 1)) (S [47]).length).length = u.length + 1 := by
  rw [show (S [47]) = (⟨#[47]⟩ : Str) from rfl, occ_one, pos_pth hl hn]
  unfold partsBetween
  simp
theorem comps_pth (u : List Nat) (hu : 0 < u.length) : compsS (pth f u) = u.map fun b => S (f b) := by
  unfold compsS
  rw [split_pth hl hn u hu, List.filter_cons, if_neg (by decide)]
  refine List.filter_eq_self.mpr fun x hx => ?_
  obtain ⟨b, _, rfl⟩ := List.mem_map.mp hx
  unfold keepC
  rw [S_length, hl, S_toList]
  simp only [Bool.and_true, Bool.and_eq_true, bne_iff_ne, ne_eq]
  exact ⟨by decide, fun q => by have := congrArg List.length q; rw [hl] at this; simp at this⟩
end
theorem glued_fold (f : Nat → List Nat) : ∀ (u : List Nat) (acc : Array Nat), ((u.map fun b => S (f b)).foldl (fun acc p => acc ++ (S [47]).cps ++ p.cps) acc).toList = acc.toList ++ pth f u
  | [], acc => by simp [pth]
  | b :: u, acc => by
    rw [List.map_cons, List.foldl_cons, glued_fold f u]
    simp [pth, S]
theorem join_pth (f : Nat → List Nat) (u : List Nat) (hu : 0 < u.length) : S [47] ++ Txt.join (S [47]) (u.map fun b => S (f b)) = S (pth f u) := by
  match u, hu with
  | b :: u, _ =>
    have h := glued_fold f u (S (f b)).cps
    have e : (S [47] ++ Txt.join (S [47]) ((b :: u).map fun b => S (f b))).cps.toList = pth f (b :: u) := by
      unfold Txt.join glued
      show ((S [47]).cps ++ _).toList = _
      rw [Array.toList_append]
      show [47] ++ (((u.map fun b => S (f b)).foldl (fun acc p => acc ++ (S [47]).cps ++ p.cps) (S (f b)).cps)).toList = _
      rw [h]
      rfl
    rw [← S_self (S [47] ++ _), e]
/-- the common path -/
theorem mn_val (u v : List Str) : mnL u v = if lexB ltS ltN v u = true then v else u := by
  have e1 : argBest (fun i j => lexB ltS ltN ([u, v].getD i []) ([u, v].getD j [])) (2 - 1) = if lexB ltS ltN v u = true then 1 else 0 := by simp [argBest]
  unfold mnL; rw [e1]
  split <;> rfl
theorem mx_val (u v : List Str) : mxL u v = if lexB ltS ltN u v = true then v else u := by
  have e2 : argBest (fun i j => lexB gtS gtN ([u, v].getD i []) ([u, v].getD j [])) (2 - 1) = if lexB ltS ltN u v = true then 1 else 0 := by simp [argBest, lex_gt]
  unfold mxL; rw [e2]
  split <;> rfl
theorem lead_self : ∀ u : List Str, lead u u = u.length
  | [] => rfl
  | a :: u => by
    unfold lead
    rw [if_pos (beq_self_eq_true _), lead_self u]; rfl
section
variable {f : Nat → List Nat} {D : Nat → Prop} (hl : ∀ a, (f a).length = 10) (hn : ∀ a, 47 ∉ f a) (hi : ∀ a b, D a → D b → f a = f b → a = b)
include hl hn hi
theorem lead_pre1 : ∀ (w x : List Nat), (∀ a ∈ w, D a) → (∀ a ∈ x, D a) → lead (w.map fun b => S (f b)) (x.map fun b => S (f b)) = w.length → w <+: x
  | [], x, _, _, _ => List.nil_prefix
  | a :: w, [], _, _, h => by simp [lead] at h
  | a :: w, b :: x, hw, hx, h => by
    simp only [List.map_cons, lead] at h
    by_cases e : f a = f b
    · rw [if_pos (by rw [e]; exact beq_self_eq_true _)] at h
      have := hi a b (hw a (.head _)) (hx b (.head _)) e
      subst this
      exact List.cons_prefix_cons.mpr ⟨rfl, lead_pre1 w x (fun c hc => hw c (.tail _ hc)) (fun c hc => hx c (.tail _ hc)) (by simpa using h)⟩
    · rw [if_neg (show ¬ ((S _).cps.toList == (S _).cps.toList) = true from fun q => e (eq_of_beq q))] at h; simp at h
theorem lead_pre2 : ∀ (w x : List Nat), (∀ a ∈ w, D a) → (∀ a ∈ x, D a) → lead (x.map fun b => S (f b)) (w.map fun b => S (f b)) = w.length → w <+: x
  | [], x, _, _, _ => List.nil_prefix
  | a :: w, [], _, _, h => by simp [lead] at h
  | a :: w, b :: x, hw, hx, h => by
    simp only [List.map_cons, lead] at h
    by_cases e : f b = f a
    · rw [if_pos (by rw [e]; exact beq_self_eq_true _)] at h
      have := hi a b (hw a (.head _)) (hx b (.head _)) e.symm
      subst this
      exact List.cons_prefix_cons.mpr ⟨rfl, lead_pre2 w x (fun c hc => hw c (.tail _ hc)) (fun c hc => hx c (.tail _ hc)) (by simpa using h)⟩
    · rw [if_neg (show ¬ ((S _).cps.toList == (S _).cps.toList) = true from fun q => e (eq_of_beq q))] at h; simp at h
omit hl hn hi in
theorem pre_lex (f : Nat → List Nat) : ∀ (w x : List Nat), w <+: x → w.length < x.length → lexB ltS ltN (w.map fun b => S (f b)) (x.map fun b => S (f b)) = true ∧ lead (w.map fun b => S (f b)) (x.map fun b => S (f b)) = w.length
  | [], [], _, h => by simp at h
  | [], b :: x, _, _ => by simp [lexB, ltN, lead]
  | a :: w, [], h, _ => by simp at h
  | a :: w, b :: x, h, hlt => by
    obtain ⟨rfl, h'⟩ := List.cons_prefix_cons.mp h
    have ih := pre_lex f w x h' (by simpa using hlt)
    simp only [List.map_cons]
    unfold lexB lead
    rw [if_pos (beq_self_eq_true _), if_pos (beq_self_eq_true _)]
    exact ⟨ih.1, by rw [ih.2]; rfl⟩
theorem cp_pth (x w : List Nat) (hw : 0 < w.length) (hwx : w.length < x.length) (hDx : ∀ a ∈ x, D a) (hDw : ∀ a ∈ w, D a) : (cpR (compsS (pth f x)) (compsS (pth f w))).cps.toList = pth f w ↔ w <+: x := by
  rw [comps_pth hl hn x (by omega), comps_pth hl hn w hw]
  have hne : ∀ y : List Nat, ∀ k, k ≤ y.length → (S [47] ++ Txt.join (S [47]) ((y.map fun b => S (f b)).take k)).cps.toList = pth f w → k = w.length := fun y k hk h => by
    rw [← List.map_take] at h
    by_cases h0 : k = 0
    · subst h0
      have := congrArg List.length h
      rw [pth_len hl] at this
      rw [show (S [47] ++ Txt.join (S [47]) ((y.take 0).map fun b => S (f b))).cps.toList = [47] from rfl] at this
      simp at this; omega
    · have hlen : (y.take k).length = k := by simp; omega
      rw [join_pth f (y.take k) (by omega)] at h
      have := congrArg List.length h
      rw [S_toList, pth_len hl, pth_len hl, hlen] at this
      omega
  constructor
  · intro h
    unfold cpR at h
    rw [mn_val, mx_val] at h
    by_cases h1 : lexB ltS ltN (w.map fun b => S (f b)) (x.map fun b => S (f b)) = true
    · have h2 := lex_asym _ _ h1
      rw [if_pos h1, if_neg (by rw [h2]; decide)] at h
      have := hne w _ (by have := lead_le (w.map fun b => S (f b)) (x.map fun b => S (f b)); simpa using this) h
      exact lead_pre1 hl hn hi w x hDw hDx this
    · rw [if_neg h1] at h
      by_cases h3 : lexB ltS ltN (x.map fun b => S (f b)) (w.map fun b => S (f b)) = true
      · rw [if_pos h3] at h
        have := hne x _ (by have := lead_le (x.map fun b => S (f b)) (w.map fun b => S (f b)); simpa using this) h
        exact lead_pre2 hl hn hi w x hDw hDx this
      · rw [if_neg h3, lead_self] at h
        have := hne x _ (by simp) h
        simp at this; omega
  · intro h
    obtain ⟨h1, h2⟩ := pre_lex f w x h hwx
    have h3 := lex_asym _ _ h1
    unfold cpR
    rw [mn_val, mx_val, if_pos h1, if_neg (by rw [h3]; decide), h2, ← List.map_take, List.take_length, join_pth f w hw]
    rfl
end
end Mine
end
section
open PySem PySem.W PyProof.Rows
namespace Mine
theorem sg_len (m : Nat) : (sgL m).length = 10 := by simp [sgL, tri]
noncomputable def tgL (m : Nat) : List Nat := sgL (m ^^^ 511)
noncomputable def xN (ns : List Int) : List Nat := (rowN ns).map (msAt ns)
theorem tx_x (ns : List Int) : txN ns (rowN ns).length = xN ns := by unfold txN xN; rw [List.take_length]
theorem ms_mem {ns : List Int} {k : Nat} (hk : k < 3) : msAt ns k ∈ msN ns := by
  have h3 : k < (msN ns).length := hk
  unfold msAt
  rw [List.getD_eq_getElem?_getD, List.getElem?_eq_getElem h3]
  exact List.getElem_mem h3
theorem x_mem (ns : List Int) : ∀ a ∈ xN ns, a ∈ msN ns := fun a ha => by
  obtain ⟨k, hk, rfl⟩ := List.mem_map.mp ha
  exact ms_mem (row_lt ns k hk)
theorem x_len (ns : List Int) : (xN ns).length = (rowN ns).length := by simp [xN]
theorem ms_kind (ns : List Int) : ∀ m ∈ msN ns, m / 4096 = kdN ns := fun m hm => by
  have h0 := (m0_lt ns)
  simp only [msN, List.mem_cons, List.not_mem_nil, or_false] at hm
  rcases hm with rfl | rfl | rfl
  · exact h0.2.1
  · exact (xor_low h0.1 (p2_lt (b1_lt ns).1)).2.trans h0.2.1
  · exact (xor_low h0.1 (p2_lt (b2_lt ns).1)).2.trans h0.2.1
theorem xor_inj {a b c : Nat} (h : a ^^^ c = b ^^^ c) : a = b := by
  have := congrArg (· ^^^ c) h
  simpa [Nat.xor_assoc] using this
section
variable {ns : List Int}
theorem f1_inj (a b : Nat) (ha : a ∈ msN ns) (hb : b ∈ msN ns) (h : sgL a = sgL b) : a = b := sg_inj ((ms_kind ns a ha).trans (ms_kind ns b hb).symm) h
theorem f2_inj (a b : Nat) (ha : a ∈ msN ns) (hb : b ∈ msN ns) (h : tgL a = tgL b) : a = b :=
  xor_inj (sg_inj (by rw [turn_kind, turn_kind]; exact (ms_kind ns a ha).trans (ms_kind ns b hb).symm) h)
theorem f_mir (a b : Nat) (ha : a ∈ msN ns) (hb : b ∈ msN ns) (h : ltf sgL a b = true) (h2 : ltf tgL a b = true) : False := by
  have m := (sg_mir ((ms_kind ns a ha).trans (ms_kind ns b hb).symm)).lt
  unfold ltf at h h2
  simp only [decide_eq_true_eq] at h h2
  exact absurd (List.lt_trans (m h) h2) (List.lt_irrefl _)
end
theorem nm_sg (ns : List Int) : nmL ns = (msN ns).map sgL := List.map_congr_left fun m hm => fm_sg m (ms_lt ns m hm)
theorem tu_sg (ns : List Int) : tuL ns = (msN ns).map tgL := List.map_congr_left fun m hm => fm_sg _ (tu_lt (ms_lt ns m hm))
theorem nm_at (f : Nat → List Nat) (ns : List Int) {k : Nat} (hk : k < 3) : nmAt ((msN ns).map f) k = f (msAt ns k) := by
  have h3 : k < (msN ns).length := hk
  unfold nmAt msAt
  rw [List.getD_eq_getElem?_getD, List.getElem?_map, List.getD_eq_getElem?_getD, List.getElem?_eq_getElem h3]; rfl
section
variable {f : Nat → List Nat} (hl : ∀ a, (f a).length = 10) (hn : ∀ a, 47 ∉ f a)
include hl hn
theorem rst_pth (names : List (List Nat)) (g : Nat → Nat) : ∀ (row : List Nat), (∀ k ∈ row, nmAt names k = f (g k)) → 0 < row.length → 47 :: rst names row = pth f (row.map g)
  | [], _, h => by simp at h
  | [k], h, _ => by
    show 47 :: nmAt names k = 47 :: (f (g k) ++ [])
    rw [h k (.head _), List.append_nil]
  | k :: k2 :: r, h, _ => by
    have ih := rst_pth names g (k2 :: r) (fun q hq => h q (.tail _ hq)) (by simp)
    have ih' : rst names (k2 :: r) = f (g k2) ++ pth f (r.map g) := (List.cons.inj ih).2
    have hne : rst names (k2 :: r) ≠ [] := by
      intro q
      rw [q] at ih'
      have := congrArg List.length ih'
      rw [List.length_append, hl] at this; simp at this; omega
    rw [rst_cons, if_neg hne, h k (.head _)]
    have hh : (rst names (k2 :: r)).head? ≠ some 47 := by
      rw [ih']
      have := hl (g k2)
      cases e : f (g k2) with
      | nil => rw [e] at this; simp at this
      | cons c t =>
        simp only [List.cons_append, List.head?_cons, ne_eq, Option.some.injEq]
        intro q
        exact hn (g k2) (by rw [e, q]; exact .head _)
    have hg : (f (g k)).getLast? ≠ some 47 := fun q => hn (g k) (List.mem_of_getLast? q)
    unfold pj
    rw [if_neg (by simp only [Bool.or_eq_true, beq_iff_eq, hl, not_or]; exact ⟨hh, by decide⟩), if_neg (by simpa using hg)]
    show 47 :: (f (g k) ++ 47 :: rst names (k2 :: r)) = 47 :: (f (g k) ++ pth f ((k2 :: r).map g))
    rw [ih]
theorem ends_pth (names : List (List Nat)) (g : Nat → Nat) (row : List Nat) (h : ∀ k ∈ row, nmAt names k = f (g k)) : endsL names row = (List.range row.length).map fun j => pth f ((row.map g).drop j) := by
  unfold endsL
  refine List.map_congr_left fun j hj => ?_
  have hj' : j < row.length := by simpa using hj
  have e := rst_pth hl hn names g (row.drop j) (fun k hk => h k (List.mem_of_mem_drop hk)) (by simp; omega)
  rw [← List.map_drop, ← e]
  have hne : rst names (row.drop j) ≠ [] := by
    intro q
    rw [q] at e
    have := congrArg List.length e
    rw [pth_len hl] at this; simp at this; omega
  have hh : (rst names (row.drop j)).head? ≠ some 47 := by
    match hr : row.drop j, e with
    | [], _ => simp [rst]
    | k :: r, e =>
      have e' : rst names (k :: r) = f (g k) ++ pth f (r.map g) := (List.cons.inj e).2
      rw [e']
      have := hl (g k)
      cases e3 : f (g k) with
      | nil => rw [e3] at this; simp at this
      | cons c t =>
        simp only [List.cons_append, List.head?_cons, ne_eq, Option.some.injEq]
        intro q
        exact hn (g k) (by rw [e3, q]; exact .head _)
  unfold pj
  rw [if_neg (by simp only [Bool.or_eq_true, beq_iff_eq, not_or]; exact ⟨hh, by simp⟩), if_pos (by simp)]
  rfl
omit hn in
theorem idx_exists {D : Nat → Prop} (hi : ∀ a b, D a → D b → f a = f b → a = b) {x : List Nat} (hD : ∀ a ∈ x, D a) (hx : 0 < x.length) {l : List Str} (e : l = (List.range x.length).map fun j => S (pth f (x.drop j))) : ∃ j, IdxMax l j ∧ MaxAt (ltf f) x j := by
  have hlen : l.length = x.length := by rw [e]; simp
  have hget : ∀ i, i < x.length → l[i]? = some (S (pth f (x.drop i))) := fun i h => by rw [e, List.getElem?_map, List.getElem?_range h]; rfl
  have hgd : ∀ i, i < x.length → l.getD i default = S (pth f (x.drop i)) := fun i h => by rw [List.getD_eq_getElem?_getD, hget i h]; rfl
  have hne : ∀ i j, i < x.length → j < x.length → i ≠ j → pth f (x.drop i) ≠ pth f (x.drop j) := fun i j h1 h2 h q => by
    have := congrArg List.length q
    rw [pth_len hl, pth_len hl, List.length_drop, List.length_drop] at this; omega
  have hab : ∀ k, argBest (fun i j => gtS (l.getD i default) (l.getD j default)) k = bestI (fun i j => gtS (l.getD i default) (l.getD j default)) k := by
    intro k
    induction k with
    | zero => rfl
    | succ k ih => unfold argBest bestI; rw [ih]
  have hb := best_le (fun i j => gtS (l.getD i default) (l.getD j default)) (l.length - 1)
  have hs := best_spec (bt := fun i j => gtS (l.getD i default) (l.getD j default)) (n := l.length - 1) (fun i j k h1 h2 => by
    unfold gtS at h1 h2 ⊢
    simp only [decide_eq_true_eq] at h1 h2 ⊢
    exact List.lt_trans h2 h1) (fun i j h1 h2 h => by
    rw [hgd i (by omega), hgd j (by omega)]
    unfold gtS
    simp only [decide_eq_true_eq]
    exact (list_tri _ _ (hne i j (by omega) (by omega) h)).symm) (l.length - 1)
  have hmx : maxS l = l.getD (bestI (fun i j => gtS (l.getD i default) (l.getD j default)) (l.length - 1)) default := by unfold maxS; rw [hab]
  generalize hj : bestI (fun i j => gtS (l.getD i default) (l.getD j default)) (l.length - 1) = j at hb hs hmx
  have hjx : j < x.length := by omega
  rw [hgd j hjx] at hmx
  refine ⟨j, ⟨by rw [hmx]; exact hget j hjx, fun i hi y hy => ?_⟩, hjx, fun i hi2 hne2 => ?_⟩
  · rw [hget i (by omega)] at hy; cases hy
    rw [hmx]
    exact hne i j (by omega) hjx (by omega)
  · have := hs i (Nat.le_refl _) (by omega) hne2
    rw [hgd i hi2, hgd j hjx] at this
    unfold gtS at this
    simp only [decide_eq_true_eq] at this
    exact (pth_lt hl hi _ _ (fun a h => hD a (mem_drop' h)) (fun a h => hD a (mem_drop' h))).mp this
end
theorem arg_max (ls : List Int) : ∀ k i, i ≤ k → ls.getD i 0 ≤ ls.getD (argBest (fun i j => decide (ls.getD i 0 > ls.getD j 0)) k) 0
  | 0, i, h => by
    have : i = 0 := by omega
    subst this; exact Int.le_refl _
  | k + 1, i, h => by
    have ih := arg_max ls k
    unfold argBest
    by_cases q : (ls.getD (k + 1) 0 > ls.getD (argBest (fun i j => decide (ls.getD i 0 > ls.getD j 0)) k) 0)
    · rw [if_pos (by simpa using q)]
      by_cases e : i = k + 1
      · subst e; exact Int.le_refl _
      · have := ih i (by omega); omega
    · rw [if_neg (by simpa using q)]
      by_cases e : i = k + 1
      · subst e; omega
      · exact ih i (by omega)
theorem arg_le (bt : Nat → Nat → Bool) : ∀ k, argBest bt k ≤ k
  | 0 => Nat.le_refl _
  | k + 1 => by
    have := arg_le bt k
    unfold argBest
    split <;> omega
theorem max_is {stp : Nat → Nat} {n p c : Nat} (hn : 0 < n) (hle : ∀ i, i < n → stp i ≤ p) (hc : c < n) (he : stp c = p) :
    ((List.range n).map fun i => (stp i : Int)).getD (argBest (fun i j => decide (((List.range n).map fun i => (stp i : Int)).getD i 0 > ((List.range n).map fun i => (stp i : Int)).getD j 0)) (((List.range n).map fun i => (stp i : Int)).length - 1)) 0 = (p : Nat) := by
  have hg : ∀ i, i < n → ((List.range n).map fun i => (stp i : Int)).getD i 0 = stp i := fun i h => by
    rw [List.getD_eq_getElem?_getD, List.getElem?_map, List.getElem?_range h]; rfl
  have hlen : ((List.range n).map fun i => (stp i : Int)).length = n := by simp
  have h1 := arg_max ((List.range n).map fun i => (stp i : Int)) (n - 1) c (by omega)
  have h2 := arg_le (fun i j => decide (((List.range n).map fun i => (stp i : Int)).getD i 0 > ((List.range n).map fun i => (stp i : Int)).getD j 0)) (n - 1)
  rw [hlen]
  generalize argBest (fun i j => decide (((List.range n).map fun i => (stp i : Int)).getD i 0 > ((List.range n).map fun i => (stp i : Int)).getD j 0)) (n - 1) = b at h1 h2
  rw [hg c hc, hg b (by omega), he] at h1
  rw [hg b (by omega)]
  have := hle b (by omega)
  omega
end Mine
end
section
open PySem PySem.W PyProof.Rows
namespace Mine
theorem across_ok (w : World) (x : List Nat) (k : Nat) (h0 : 0 < x.length) (hx : x.length ≤ 1000) (hc : ∀ c ∈ x, c < 16 ^ 8) (hk : k + 1 ≤ x.length) : PX w 12 252 [.str (S x), .int ((k + 1 : Nat) : Int)] (.int (AN x (k + 1) : Nat)) := by
  have hle := fst_le (fun i => acB x (k + 1) (i + 1)) (x.length - 1)
  refine px_law_across w x (k + 1) (fst' (fun i => acB x (k + 1) (i + 1)) (x.length - 1)) hx hc hk (by omega) (fun i hi => ?_) ?_
  · exact fst_low (f := fun i => acB x (k + 1) (i + 1)) hi
  · by_cases q : fst' (fun i => acB x (k + 1) (i + 1)) (x.length - 1) < x.length - 1
    · exact fst_at (f := fun i => acB x (k + 1) (i + 1)) q
    · have e : fst' (fun i => acB x (k + 1) (i + 1)) (x.length - 1) + 1 = x.length := by omega
      rw [e]
      exact (acB_iff (Nat.le_refl _)).mpr fun i h1 h2 h3 => by omega
section
variable {f : Nat → List Nat} {D : Nat → Prop} (hl : ∀ a, (f a).length = 10) (hn : ∀ a, 47 ∉ f a) (hi : ∀ a b, D a → D b → f a = f b → a = b)
include hl hn hi
theorem period_ok (w : World) (x : List Nat) (hD : ∀ a ∈ x, D a) (h0 : 0 < x.length) (hx : x.length ≤ 12) : PC w 11 238 [.list (PVs ((List.range x.length).map fun j => pth f (x.drop j)))] (.int (PN x : Nat)) := by
  have hE : ((List.range x.length).map fun j => pth f (x.drop j)) = pth f x :: (List.range (x.length - 1)).map fun j => pth f (x.drop (j + 1)) := by
    have : x.length = (x.length - 1) + 1 := by omega
    rw [show List.range x.length = List.range ((x.length - 1) + 1) by rw [← this], List.range_succ_eq_map, List.map_cons, List.map_map]
    rfl
  rw [hE]
  have hle := fst_le (fun i => perB x (i + 1)) (x.length - 1)
  have hget : ∀ (i : Nat) e, ((List.range (x.length - 1)).map fun j => pth f (x.drop (j + 1)))[i]? = some e → i < x.length - 1 ∧ e = pth f (x.drop (i + 1)) := fun i e h => by
    rw [List.getElem?_map] at h
    obtain ⟨k, hk, rfl⟩ := Option.map_eq_some_iff.mp h
    obtain ⟨h1, h2⟩ := List.getElem?_eq_some_iff.mp hk
    simp at h1 h2
    subst h2
    exact ⟨h1, rfl⟩
  have hh : ∀ u : List Nat, 0 < u.length → (pth f u).head? = some 47 := fun u hu => by
    match u, hu with
    | b :: u, _ => rfl
  have hsp : ∀ u : List Nat, 0 < u.length → u.length ≤ 12 → ((Txt.split (S (pth f u)) (S [47])).length ≤ 100 ∧ (Builtin.Str.partsBetween (S (pth f u)) (Builtin.Str.occurrences (S (pth f u)) (S [47]) 0 (S (pth f u)).length ((S (pth f u)).length + 1)) (S [47]).length).length ≤ sizeLine ∧ ∀ y ∈ Txt.split (S (pth f u)) (S [47]), y.length ≤ 100) := fun u h1 h2 => by
    rw [split_pth hl hn u h1, parts_len hl hn u]
    refine ⟨by simp; omega, by unfold sizeLine; omega, fun y hy => ?_⟩
    rcases List.mem_cons.mp hy with rfl | hy
    · decide
    · obtain ⟨b, _, rfl⟩ := List.mem_map.mp hy
      rw [S_length, hl]; decide
  have hcp : ∀ (i : Nat), i < x.length - 1 → ((cpR (compsS (pth f x)) (compsS (pth f (x.drop (i + 1))))).cps.toList = pth f (x.drop (i + 1)) ↔ perB x (i + 1) = true) := fun i h => by
    rw [cp_pth hl hn hi x (x.drop (i + 1)) (by simp; omega) (by simp; omega) hD (fun a ha => hD a (mem_drop' ha))]
    unfold perB
    rw [List.isPrefixOf_iff_prefix]
  refine pc_law_period9 w (pth f x) _ (fun e => (cpR (compsS (pth f x)) (compsS e)).cps.toList) (fun e he => ?_) (by simp; omega) (fst' (fun i => perB x (i + 1)) (x.length - 1)) (by simpa using hle) (fun i h e he => ?_) (fun e he => ?_)
  · obtain ⟨j, hj, rfl⟩ := List.mem_map.mp he
    have hj' : j < x.length - 1 := by simpa using hj
    rw [S_self]
    refine pc_commonpath w (pth f x) (pth f (x.drop (j + 1))) (hh _ h0) (hh _ (by simp; omega)) (by rw [pth_len hl]; omega) (by rw [pth_len hl]; simp; omega) fun y hy => ?_
    rcases hy with rfl | rfl
    · exact hsp x h0 hx
    · exact hsp _ (by simp; omega) (by simp; omega)
  · obtain ⟨h1, rfl⟩ := hget i e he
    have := fst_low (f := fun i => perB x (i + 1)) h
    intro q
    have := (hcp i h1).mp q
    simp_all
  · obtain ⟨h1, rfl⟩ := hget _ e he
    exact (hcp _ h1).mpr (fst_at (f := fun i => perB x (i + 1)) h1)
end
theorem x_start (ns : List Int) : ∃ t, xN ns = msAt ns 0 :: msAt ns 1 :: t := by
  unfold xN rowN
  exact ⟨_, rfl⟩
theorem m01 (ns : List Int) : msAt ns 0 ≠ msAt ns 1 := by
  show m0N ns ≠ m1N ns
  unfold m1N
  intro h
  have h2 := congrArg (m0N ns ^^^ ·) h
  simp only [Nat.xor_self, ← Nat.xor_assoc, Nat.zero_xor] at h2
  have := Nat.two_pow_pos (b1N ns)
  omega
/-- the law holds -/
theorem law_ok (w : World) (ns : List Int) (hlen : ns.length ≤ 63) : ∀ A s vs base, Lv 14 A → A.frames = some [] → G w base [] s.heap → RepL s.heap [.list (ns.map .int)] vs →
    wpAny (model PF w) A (call (.ref 257) vs) (fun v s' => Rep s'.heap (.bool true) v ∧ Aft [] s s' ∧ G w base [] s'.heap) No s := by
  have hrl := row_len ns
  have hxl := x_len ns
  have hD := x_mem ns
  have h0 : 0 < (xN ns).length := by omega
  have hn2 : ∀ a, 47 ∉ tgL a := fun a => sg_no47 _
  have e1 : endsL (nmL ns) (rowN ns) = (List.range (xN ns).length).map fun j => pth sgL ((xN ns).drop j) := by
    rw [nm_sg, ends_pth sg_len sg_no47 _ (msAt ns) (rowN ns) (fun k hk => nm_at sgL ns (row_lt ns k hk)), hxl]; rfl
  have e2 : endsL (tuL ns) (rowN ns) = (List.range (xN ns).length).map fun j => pth tgL ((xN ns).drop j) := by
    rw [tu_sg, ends_pth (f := tgL) (fun a => sg_len _) hn2 _ (msAt ns) (rowN ns) (fun k hk => nm_at tgL ns (row_lt ns k hk)), hxl]; rfl
  obtain ⟨j1, hj1, hm1⟩ := idx_exists (f := sgL) sg_len (D := (· ∈ msN ns)) f1_inj hD h0 (l := enS ns) (by unfold enS; rw [e1, List.map_map]; rfl)
  obtain ⟨j2, hj2, hm2⟩ := idx_exists (f := tgL) (fun a => sg_len _) (D := (· ∈ msN ns)) f2_inj hD h0 (l := otS ns) (by unfold otS; rw [e2, List.map_map]; rfl)
  have has : ∀ (f : Nat → List Nat) (a b : Nat), a ∈ msN ns → b ∈ msN ns → ltf f a b = true → ltf f b a = false := fun f a b _ _ h => ltf_asym f a b h
  obtain ⟨t, ht⟩ := x_start ns
  have hpos := crit_pos (D := (· ∈ msN ns)) f_mir hD ht (m01 ns) hm1 hm2
  have hcr : AN (xN ns) (max j1 j2) = PN (xN ns) := AN_crit (D := (· ∈ msN ns)) (has _) f_mir (has _) hD hm1 hm2
  have hj1x := hm1.1
  have hj2x := hm2.1
  have hcut : AN (xN ns) (max j1 j2 - 1 + 1) = PN (xN ns) := by rw [show max j1 j2 - 1 + 1 = max j1 j2 by omega]; exact hcr
  refine px_law w ns hlen j1 j2 (PN (xN ns)) (fun k => AN (xN ns) (k + 1)) hj1 hj2 (fun k hk => ?_) ?_ ?_ hpos (by omega) hcut
  · rw [tx_x]
    exact across_ok w (xN ns) k h0 (by omega) (fun c hc => Nat.lt_trans (ms_lt ns c (hD c hc)) (by decide)) (by omega)
  · rw [← en_pv, e1]
    exact period_ok sg_len sg_no47 (D := (· ∈ msN ns)) f1_inj w (xN ns) hD h0 (by omega)
  · exact max_is (stp := fun k => AN (xN ns) (k + 1)) (c := max j1 j2 - 1) (by omega) (fun i _ => AN_le h0) (by omega) hcut
end Mine
end
section
open PySem PySem.W PyProof.Rows
namespace Mine
set_option maxHeartbeats 0 in
theorem well_ok : PySem.Challenge.rw_rt0072_01.wellSaid = true := by
  rw [Fast.te9446332074065402090]
  kernel_rfl
theorem ns_uni {h : Heap} {a : Addr} {m m' : Str → Option Value} (x : h.Ns a m) (y : h.Ns a m') (n : Str) : m n = m' n := by
  obtain ⟨o, es, ep, e, d, _, q⟩ := x
  obtain ⟨o', es', ep', e', d', _, q'⟩ := y
  rw [e] at e'; cases e'
  rw [d] at d'; cases d'
  rw [← q n, ← q' n]
theorem g_law {P : Params} : nsFind (esMain P) (Str.ofString "law") = some (.ref 257) := by kernel_rfl
theorem law_at {w : World} {h : Heap} {mg : Str → Option Value} {fa : Addr} (X : XAt w h) (T : h.Ns mainGlobals mg) (e : mg (Str.ofString "law") = some (.ref fa)) : fa = 257 := by
  rw [ns_uni T (main_ns X), g_law] at e
  cases e; rfl
theorem lv_caller : Lv 14 callerA := ⟨rfl, by decide +kernel, by decide +kernel⟩
theorem G_start {w : World} {h : Heap} (X : XAt w h) (T : TabsAt [(204, 200)] h) : G w (gho h) [] h :=
  ⟨X.gho, gho_none, fun b o e => gho_of e, trivial, (T _ (.head _)).1, #[], (T _ (.head _)).2, trivial, .inl rfl⟩
theorem rep_ints {h : Heap} : ∀ {vs : List Value} {ns : List Int}, IntsAre vs ns → RepL h (ns.map .int) vs := by
  intro vs ns x
  induction x with
  | nil => simp only [List.map_nil, RepL]
  | cons n t _ ih =>
    simp only [List.map_cons, RepL]
    exact ⟨_, _, rfl, rep_int, ih⟩
theorem rep_args {h : Heap} {a : Addr} {vs : List Value} {ns : List Int} (hL : h.IsList a vs.toArray) (x : IntsAre vs ns) : RepL h [.list (ns.map .int)] [.ref a] := by
  simp only [RepL, Rep]
  exact ⟨_, [], rfl, ⟨a, vs.toArray, rfl, hL, by simpa using rep_ints x⟩, rfl⟩
theorem old_end {w : World} {s₁ s' : Shared} (T : TabsAt [(204, 200)] s₁.heap) (a : Aft [] s₁ s') (g : G w (gho s₁.heap) [] s'.heap) : OldK s₁.heap s'.heap := by
  obtain ⟨a, h', tk, rfl⟩ := a
  obtain ⟨_, ps, hP, _⟩ := g.tab
  have hT := T _ (.head _)
  have keep : ∀ b o, b ≠ 200 → s₁.heap.get? b = some o → h'.get? b = some o := fun b o hb e => (a b o e (by simpa using hb)).1 (by simp)
  refine ⟨fun b o e => ?_, fun b o e => ?_⟩
  · by_cases hb : b = 200
    · subst hb
      have e2 := hT.2
      rw [show s₁.heap.get? 200 = some o from e] at e2; cases e2
      exact .inr (.inl ⟨(hT.1.tab hT.2).isCodeTable, rfl, #[], ps, rfl, by rw [Array.empty_append]; exact hP⟩)
    · exact .inl (keep b o hb e)
  · by_cases hb : b = 200
    · subst hb
      exact ⟨_, hP⟩
    · exact ⟨o, keep b o hb e⟩
end Mine
end
open PySem PySem.W PyProof.Rows
set_option maxHeartbeats 8000000 in
theorem PySem.Challenge.cw_rt0072_01_holds : PySem.Challenge.rw_rt0072_01.Holds := by
  w_on
  refine holds_law Mine.well_ok fun said => ?_
  refine holds_open (q := Mine.viewF) (loose := Mine.looseF) (Xt := Mine.XtF) (XP := XL Mine.viewF Mine.lvF) (Yf := Mine.YfF) (Ya := Mine.YaF) (YP := fun w h => (kmHook Mine.KF Mine.asF Mine.asF_eq [200]).says w h ∧ Mine.XAt w h) (N := 5000) Mine.leftF Mine.YPF_of Mine.YPF_keeps
    (fun s e => xl_of s (Bool.and_eq_true_iff.mp e).1) XL.keeps (by rfl) (by rfl) (by rfl) (fun s e => recFacts_of (Bool.and_eq_true_iff.mp e).2) (by rfl) (by assumption) (by decide +kernel) ⟨rfl, rfl, rfl, rfl, rfl, by decide +kernel⟩ ?hw ?hc
  case hw => w_witness2
  k_fill
  intro w s₀ s₁ mg mb G Y' fa o pm cd doc dV kV ho hd hcd hD hmg hg args vals as hpre hlay hrd hwl hlo
  obtain ⟨Y, HX⟩ := Y'
  have KX := km_in_of Y
  km_tabs Y
  have X := (Ground.X G).1
  have V := (Ground.X G).2
  refine Ground.open G ?_
  intro T B D TE TW
  try (refine guard_noD D (by decide +kernel) ?_; clear D)
  km_lay T hmg ho hd cd
  wrow_args hpre hlay hrd hwl hlo
  have hI := ‹IntsAre _ _›
  have hLs := ‹Heap.IsList _ _ _›
  have hfa : fa = 257 := Mine.law_at HX T.g hmg
  subst hfa
  have hG := Mine.G_start HX hT9
  refine Mine.no_mono (Mine.law_ok w _ (by omega) callerA s₁ _ _ Mine.lv_caller rfl hG (Mine.rep_args hLs hI)) fun v s' q => ?_
  obtain ⟨rv, a, g'⟩ := q
  simp only [Mine.Rep] at rv
  subst rv
  have hold := Mine.old_end hT9 a g'
  obtain ⟨_, h', tk, rfl⟩ := a
  refine ⟨.inl ⟨_, _, [], rfl, fun _ => rfl, ReadsW.bool true, ?_, fun _ => ⟨List.nodup_nil, fun _ hm => (nomatch hm)⟩⟩, hold, rfl, AllBare.of_eq hg⟩
  first | rfl | wrow_post
