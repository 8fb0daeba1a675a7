import PyProof.Rows.All
import Wide.All
import OpenK.AllK
import Wide.FinOn
import PySem.Challenge.RW_nb0180_01
open PySem PySem.W PyProof.Rows
set_option Elab.async false
namespace Mine
namespace HH
noncomputable abbrev hP : Program := PySem.Challenge.pw_nb0180_01
noncomputable def vs (s : String) (t : Nat) : Value := .str (.ofString s) t
noncomputable def vi (n t : Nat) : Value := .int (.ofNat n) t
noncomputable def vb (l : List Nat) (t : Nat) : Value := .bytes (l.map (·.toUInt8)).toArray t
noncomputable def vr (a : Nat) : Value := .ref a
noncomputable def en (P : Params) (s : String) (t : Nat) (v : Value) : DictEntry := ⟨PyData.keyHash P (.ofString s), .str (.ofString s) t, v⟩
noncomputable def ps (a b c d : Nat) : Pos := ⟨a, b, c, d⟩
/-- a def's object, from the text's statement i -/
noncomputable def fnO (i : Nat) (cls pm code : Value) (g : Nat) (d kd : Value) : Obj := match hP.main.body.drop i with
  | .FunctionDef name args body _ _ _ scope _ _ _ :: _ => ⟨cls, none, .func { name, qualname := name, params := args, body := .stmts body, scope, globals := g, closure := [], defaults := d, kwdefaults := kd, pyModule := pm, code }, #[]⟩
  | _ => default
noncomputable def edit : List (Nat × Obj) → BT → BT
  | [], t => t
  | (i, o) :: r, t => edit r (t.ins i o)
noncomputable def envH : Env := { scope := hP.main.scope, locals := 3, globals := 3, cells := [], code := .ref 13, frame := some 14 }
noncomputable def stsH (a n : Nat) : List Stmt := (hP.main.body.drop a).take n
noncomputable def hx (d : Nat) : Nat := match Nat.ble d 9 with | true => 48 + d | false => 55 + d
noncomputable def qi (k : Nat) : Value := .str ⟨[61, hx (k / 16), hx (k % 16)].toArray⟩ (204 + 4 * k)
noncomputable def qs (f : Nat → Value) : Nat → Nat → List Value
  | 0, _ => []
  | n + 1, k => f k :: qs f n (k + 1)
noncomputable def sa : Nat → List Nat → List Value → List Value
  | _, [], l => l
  | t, c :: r, l => sa (t + 3) r (l.set c (.str ⟨[c].toArray⟩ t))
noncomputable def lO (l : List Value) (e : Nat) : Obj := ⟨.type "list", none, .seq l.toArray e, #[]⟩
noncomputable def lQ : List Value := qs qi 256 0
noncomputable def bs12 : List Nat := [nat_lit 45, nat_lit 33, nat_lit 42, nat_lit 43, nat_lit 47, nat_lit 97, nat_lit 98, nat_lit 99, nat_lit 100, nat_lit 101, nat_lit 102, nat_lit 103, nat_lit 104, nat_lit 105, nat_lit 106, nat_lit 107, nat_lit 108, nat_lit 109, nat_lit 110, nat_lit 111, nat_lit 112, nat_lit 113, nat_lit 114, nat_lit 115, nat_lit 116, nat_lit 117, nat_lit 118, nat_lit 119, nat_lit 120, nat_lit 121, nat_lit 122, nat_lit 65, nat_lit 66, nat_lit 67, nat_lit 68, nat_lit 69, nat_lit 70, nat_lit 71, nat_lit 72, nat_lit 73, nat_lit 74, nat_lit 75, nat_lit 76, nat_lit 77, nat_lit 78, nat_lit 79, nat_lit 80, nat_lit 81, nat_lit 82, nat_lit 83, nat_lit 84, nat_lit 85, nat_lit 86, nat_lit 87, nat_lit 88, nat_lit 89, nat_lit 90, nat_lit 48, nat_lit 49, nat_lit 50, nat_lit 51, nat_lit 52, nat_lit 53, nat_lit 54, nat_lit 55, nat_lit 56, nat_lit 57]
noncomputable def bs14 : List Nat := [nat_lit 32, nat_lit 33, nat_lit 34, nat_lit 35, nat_lit 36, nat_lit 37, nat_lit 38, nat_lit 39, nat_lit 40, nat_lit 41, nat_lit 42, nat_lit 43, nat_lit 44, nat_lit 45, nat_lit 46, nat_lit 47, nat_lit 48, nat_lit 49, nat_lit 50, nat_lit 51, nat_lit 52, nat_lit 53, nat_lit 54, nat_lit 55, nat_lit 56, nat_lit 57, nat_lit 58, nat_lit 59, nat_lit 60, nat_lit 62, nat_lit 63, nat_lit 64, nat_lit 65, nat_lit 66, nat_lit 67, nat_lit 68, nat_lit 69, nat_lit 70, nat_lit 71, nat_lit 72, nat_lit 73, nat_lit 74, nat_lit 75, nat_lit 76, nat_lit 77, nat_lit 78, nat_lit 79, nat_lit 80, nat_lit 81, nat_lit 82, nat_lit 83, nat_lit 84, nat_lit 85, nat_lit 86, nat_lit 87, nat_lit 88, nat_lit 89, nat_lit 90, nat_lit 91, nat_lit 92, nat_lit 93, nat_lit 94, nat_lit 95, nat_lit 96, nat_lit 97, nat_lit 98, nat_lit 99, nat_lit 100, nat_lit 101, nat_lit 102, nat_lit 103, nat_lit 104, nat_lit 105, nat_lit 106, nat_lit 107, nat_lit 108, nat_lit 109, nat_lit 110, nat_lit 111, nat_lit 112, nat_lit 113, nat_lit 114, nat_lit 115, nat_lit 116, nat_lit 117, nat_lit 118, nat_lit 119, nat_lit 120, nat_lit 121, nat_lit 122, nat_lit 123, nat_lit 124, nat_lit 125, nat_lit 126, nat_lit 9]
noncomputable def lH (m : Nat) : List Value := sa 1252 (bs12.take m) lQ
noncomputable def lH2 : List Value := (lH 67).set 32 (vs "_" 1451)
noncomputable def lB (m : Nat) : List Value := sa 1457 (bs14.take m) lQ
noncomputable def lE : List Value := sa 1758 [13, 10] (lB 95)
noncomputable def tr0 (P : Params) : BT := edit [(0, boot_o_0 P), (1, boot_o_1 P), (2, boot_o_2 P), (3, boot_o_3 P), (4, boot_o_4 P), (5, boot_o_5 P), (6, boot_o_6 P), (7, boot_o_7 P), (8, boot_o_8 P), (9, boot_o_9 P), (10, boot_o_10 P)] .nil
noncomputable def tr1 (P : Params) : BT := edit [(11, ⟨(.type "tuple"), none, (.seq [].toArray (nat_lit 0)), [].toArray⟩),
  (12, ⟨.none, none, (.fields [].toArray), [].toArray⟩),
  (13, ⟨(.type "code"), none, (.fields [(vs "<module>" (nat_lit 182)), (vs "<module>" (nat_lit 183)), (vs "/claim/cut.py" (nat_lit 184)), (vi (nat_lit 1) (nat_lit 0)), (vi (nat_lit 0) (nat_lit 0)), (vi (nat_lit 0) (nat_lit 0)), (vi (nat_lit 0) (nat_lit 0)), (vi (nat_lit 0) (nat_lit 0)), (vr (nat_lit 11)), (.bool false), (vi (nat_lit 181) (nat_lit 0)), (vr (nat_lit 12)), .none, .none, .none, .none, (vi (nat_lit 185) (nat_lit 0)), (vi (nat_lit 1) (nat_lit 0)), (vs "/claim/cut.py" (nat_lit 186))].toArray), [].toArray⟩),
  (14, ⟨(.type "frame"), none, .plain, [some (vr (nat_lit 13)), some (vr (nat_lit 3)), some (vr (nat_lit 3)), none, some (vs "__main__" (nat_lit 164)), none, some (vr (nat_lit 0))].toArray⟩)] (tr0 P)
noncomputable def tr2 (P : Params) : BT := edit [(3, ⟨(.type "dict"), none, (.dict [en P "__name__" (nat_lit 165) (vs "__main__" (nat_lit 164)), en P "__doc__" (nat_lit 166) .none, en P "__package__" (nat_lit 167) .none, en P "__loader__" (nat_lit 168) (.builtin "__main__.__loader__#opaque"), en P "__spec__" (nat_lit 169) .none, en P "__annotations__" (nat_lit 170) (vr (nat_lit 6)), en P "__builtins__" (nat_lit 171) (vr (nat_lit 4)), en P "__file__" (nat_lit 173) (vs "/claim/cut.py" (nat_lit 172)), en P "__cached__" (nat_lit 174) .none, en P "_wall" (nat_lit 193) (vr (nat_lit 21)), en P "CRLF" (nat_lit 195) (vs "\u000d\n" (nat_lit 194)), en P "NL" (nat_lit 197) (vs "\n" (nat_lit 196))].toArray (nat_lit 12)), [].toArray⟩),
  (12, ⟨.none, none, (.fields [(vi (nat_lit 1) (nat_lit 0)), (vi (nat_lit 0) (nat_lit 0)), (vr (nat_lit 20))].toArray), [].toArray⟩),
  (15, ⟨(.type "tuple"), none, (.seq [].toArray (nat_lit 0)), [].toArray⟩),
  (16, ⟨.none, none, (.fields [].toArray), [].toArray⟩),
  (17, ⟨(.type "tuple"), none, (.seq [(vs "k" (nat_lit 190))].toArray (nat_lit 0)), [].toArray⟩),
  (18, ⟨(.type "tuple"), none, (.seq [].toArray (nat_lit 0)), [].toArray⟩),
  (19, fnO 0 .none .none .none (nat_lit 0) .none .none),
  (20, ⟨(.type "code"), none, (.fields [(vs "_wall" (nat_lit 187)), (vs "_wall" (nat_lit 188)), (vs "/claim/cut.py" (nat_lit 189)), (vi (nat_lit 1) (nat_lit 0)), (vi (nat_lit 1) (nat_lit 0)), (vi (nat_lit 0) (nat_lit 0)), (vi (nat_lit 0) (nat_lit 0)), (vi (nat_lit 3) (nat_lit 0)), (vr (nat_lit 15)), (.bool true), (vi (nat_lit 181) (nat_lit 0)), (vr (nat_lit 16)), .none, (vr (nat_lit 17)), (vr (nat_lit 18)), (vr (nat_lit 19)), (vi (nat_lit 191) (nat_lit 0)), (vi (nat_lit 1) (nat_lit 0)), (vs "/claim/cut.py" (nat_lit 192))].toArray), [].toArray⟩),
  (21, fnO 0 (.type "function") (vs "__main__" (nat_lit 164)) (vr (nat_lit 20)) (nat_lit 3) .none .none)] (tr1 P)
noncomputable def tr3 (P : Params) : BT := edit [(3, ⟨(.type "dict"), none, (.dict [en P "__name__" (nat_lit 165) (vs "__main__" (nat_lit 164)), en P "__doc__" (nat_lit 166) .none, en P "__package__" (nat_lit 167) .none, en P "__loader__" (nat_lit 168) (.builtin "__main__.__loader__#opaque"), en P "__spec__" (nat_lit 169) .none, en P "__annotations__" (nat_lit 170) (vr (nat_lit 6)), en P "__builtins__" (nat_lit 171) (vr (nat_lit 4)), en P "__file__" (nat_lit 173) (vs "/claim/cut.py" (nat_lit 172)), en P "__cached__" (nat_lit 174) .none, en P "_wall" (nat_lit 193) (vr (nat_lit 21)), en P "CRLF" (nat_lit 195) (vs "\u000d\n" (nat_lit 194)), en P "NL" (nat_lit 197) (vs "\n" (nat_lit 196)), en P "_QUOPRI_MAP" (nat_lit 1225) (vr (nat_lit 24))].toArray (nat_lit 13)), [].toArray⟩),
  (22, ⟨(.type "range"), none, (.fields [(vi (nat_lit 0) (nat_lit 199)), (vi (nat_lit 256) (nat_lit 198)), (vi (nat_lit 1) (nat_lit 200))].toArray), [].toArray⟩),
  (23, ⟨(.type "range_iterator"), none, (.fields [(vi (nat_lit 256) (nat_lit 0)), (vi (nat_lit 0) (nat_lit 0)), (vi (nat_lit 1) (nat_lit 0))].toArray), [].toArray⟩),
  (24, lO lQ 256),
  (25, ⟨(.type "dict"), none, (.dict [].toArray (nat_lit 2)), [].toArray⟩),
  (26, ⟨(.type "tuple"), none, (.seq [].toArray (nat_lit 0)), [].toArray⟩),
  (27, ⟨(.type "StopIteration"), none, (.fields [(vr (nat_lit 26)), .none, .none, .none, (.bool false), .none].toArray), [].toArray⟩)] (tr2 P)
noncomputable def tr4 (P : Params) : BT := edit [(3, ⟨(.type "dict"), none, (.dict [en P "__name__" (nat_lit 165) (vs "cpy313.email.quoprimime" (nat_lit 1241)), en P "__doc__" (nat_lit 166) .none, en P "__package__" (nat_lit 167) .none, en P "__loader__" (nat_lit 168) (.builtin "__main__.__loader__#opaque"), en P "__spec__" (nat_lit 169) .none, en P "__annotations__" (nat_lit 170) (vr (nat_lit 6)), en P "__builtins__" (nat_lit 171) (vr (nat_lit 4)), en P "__file__" (nat_lit 173) (vs "/claim/cut.py" (nat_lit 172)), en P "__cached__" (nat_lit 174) .none, en P "_wall" (nat_lit 193) (vr (nat_lit 21)), en P "CRLF" (nat_lit 195) (vs "\u000d\n" (nat_lit 194)), en P "NL" (nat_lit 197) (vs "\n" (nat_lit 196)), en P "_QUOPRI_MAP" (nat_lit 1225) (vr (nat_lit 24)), en P "_QUOPRI_HEADER_MAP" (nat_lit 1226) (vr (nat_lit 29)), en P "_QUOPRI_BODY_MAP" (nat_lit 1227) (vr (nat_lit 31)), en P "ascii_lowercase" (nat_lit 1229) (vs "abcdefghijklmnopqrstuvwxyz" (nat_lit 1228)), en P "ascii_uppercase" (nat_lit 1231) (vs "ABCDEFGHIJKLMNOPQRSTUVWXYZ" (nat_lit 1230)), en P "ascii_letters" (nat_lit 1233) (vs "abcdefghijklmnopqrstuvwxyzABCDEFGHIJKLMNOPQRSTUVWXYZ" (nat_lit 1232)), en P "digits" (nat_lit 1235) (vs "0123456789" (nat_lit 1234)), en P "hexdigits" (nat_lit 1240) (vs "0123456789abcdefABCDEF" (nat_lit 1239))].toArray (nat_lit 20)), [].toArray⟩),
  (28, ⟨(.type "slice"), none, (.fields [.none, .none, .none].toArray), [].toArray⟩),
  (29, lO lQ 0),
  (30, ⟨(.type "slice"), none, (.fields [.none, .none, .none].toArray), [].toArray⟩),
  (31, lO lQ 0)] (tr3 P)
noncomputable def tr5 (P : Params) : BT := edit [(3, ⟨(.type "dict"), none, (.dict [en P "__name__" (nat_lit 165) (vs "cpy313.email.quoprimime" (nat_lit 1241)), en P "__doc__" (nat_lit 166) .none, en P "__package__" (nat_lit 167) .none, en P "__loader__" (nat_lit 168) (.builtin "__main__.__loader__#opaque"), en P "__spec__" (nat_lit 169) .none, en P "__annotations__" (nat_lit 170) (vr (nat_lit 6)), en P "__builtins__" (nat_lit 171) (vr (nat_lit 4)), en P "__file__" (nat_lit 173) (vs "/claim/cut.py" (nat_lit 172)), en P "__cached__" (nat_lit 174) .none, en P "_wall" (nat_lit 193) (vr (nat_lit 21)), en P "CRLF" (nat_lit 195) (vs "\u000d\n" (nat_lit 194)), en P "NL" (nat_lit 197) (vs "\n" (nat_lit 196)), en P "_QUOPRI_MAP" (nat_lit 1225) (vr (nat_lit 24)), en P "_QUOPRI_HEADER_MAP" (nat_lit 1226) (vr (nat_lit 29)), en P "_QUOPRI_BODY_MAP" (nat_lit 1227) (vr (nat_lit 31)), en P "ascii_lowercase" (nat_lit 1229) (vs "abcdefghijklmnopqrstuvwxyz" (nat_lit 1228)), en P "ascii_uppercase" (nat_lit 1231) (vs "ABCDEFGHIJKLMNOPQRSTUVWXYZ" (nat_lit 1230)), en P "ascii_letters" (nat_lit 1233) (vs "abcdefghijklmnopqrstuvwxyzABCDEFGHIJKLMNOPQRSTUVWXYZ" (nat_lit 1232)), en P "digits" (nat_lit 1235) (vs "0123456789" (nat_lit 1234)), en P "hexdigits" (nat_lit 1240) (vs "0123456789abcdefABCDEF" (nat_lit 1239)), en P "c" (nat_lit 1251) (vi (nat_lit 57) (nat_lit 1448))].toArray (nat_lit 21)), [].toArray⟩),
  (29, lO (lH 67) 0),
  (32, ⟨(.type "bytes_iterator"), none, (.fields [.none, (vi (nat_lit 67) (nat_lit 0))].toArray), [].toArray⟩),
  (33, ⟨(.type "tuple"), none, (.seq [].toArray (nat_lit 0)), [].toArray⟩),
  (34, ⟨(.type "StopIteration"), none, (.fields [(vr (nat_lit 33)), .none, .none, .none, (.bool false), .none].toArray), [].toArray⟩)] (tr4 P)
noncomputable def tr6 (P : Params) : BT := edit [(29, lO lH2 0)] (tr5 P)
noncomputable def tr7 (P : Params) : BT := edit [(3, ⟨(.type "dict"), none, (.dict [en P "__name__" (nat_lit 165) (vs "cpy313.email.quoprimime" (nat_lit 1241)), en P "__doc__" (nat_lit 166) .none, en P "__package__" (nat_lit 167) .none, en P "__loader__" (nat_lit 168) (.builtin "__main__.__loader__#opaque"), en P "__spec__" (nat_lit 169) .none, en P "__annotations__" (nat_lit 170) (vr (nat_lit 6)), en P "__builtins__" (nat_lit 171) (vr (nat_lit 4)), en P "__file__" (nat_lit 173) (vs "/claim/cut.py" (nat_lit 172)), en P "__cached__" (nat_lit 174) .none, en P "_wall" (nat_lit 193) (vr (nat_lit 21)), en P "CRLF" (nat_lit 195) (vs "\u000d\n" (nat_lit 194)), en P "NL" (nat_lit 197) (vs "\n" (nat_lit 196)), en P "_QUOPRI_MAP" (nat_lit 1225) (vr (nat_lit 24)), en P "_QUOPRI_HEADER_MAP" (nat_lit 1226) (vr (nat_lit 29)), en P "_QUOPRI_BODY_MAP" (nat_lit 1227) (vr (nat_lit 31)), en P "ascii_lowercase" (nat_lit 1229) (vs "abcdefghijklmnopqrstuvwxyz" (nat_lit 1228)), en P "ascii_uppercase" (nat_lit 1231) (vs "ABCDEFGHIJKLMNOPQRSTUVWXYZ" (nat_lit 1230)), en P "ascii_letters" (nat_lit 1233) (vs "abcdefghijklmnopqrstuvwxyzABCDEFGHIJKLMNOPQRSTUVWXYZ" (nat_lit 1232)), en P "digits" (nat_lit 1235) (vs "0123456789" (nat_lit 1234)), en P "hexdigits" (nat_lit 1240) (vs "0123456789abcdefABCDEF" (nat_lit 1239)), en P "c" (nat_lit 1251) (vi (nat_lit 9) (nat_lit 1737))].toArray (nat_lit 21)), [].toArray⟩),
  (31, lO (lB 95) 0),
  (35, ⟨(.type "bytes_iterator"), none, (.fields [.none, (vi (nat_lit 95) (nat_lit 0))].toArray), [].toArray⟩),
  (36, ⟨(.type "tuple"), none, (.seq [].toArray (nat_lit 0)), [].toArray⟩),
  (37, ⟨(.type "StopIteration"), none, (.fields [(vr (nat_lit 36)), .none, .none, .none, (.bool false), .none].toArray), [].toArray⟩)] (tr6 P)
noncomputable def tr8 (P : Params) : BT := edit [(3, ⟨(.type "dict"), none, (.dict [en P "__name__" (nat_lit 165) (vs "cpy313.email.quoprimime" (nat_lit 1241)), en P "__doc__" (nat_lit 166) .none, en P "__package__" (nat_lit 167) .none, en P "__loader__" (nat_lit 168) (.builtin "__main__.__loader__#opaque"), en P "__spec__" (nat_lit 169) .none, en P "__annotations__" (nat_lit 170) (vr (nat_lit 6)), en P "__builtins__" (nat_lit 171) (vr (nat_lit 4)), en P "__file__" (nat_lit 173) (vs "/claim/cut.py" (nat_lit 172)), en P "__cached__" (nat_lit 174) .none, en P "_wall" (nat_lit 193) (vr (nat_lit 21)), en P "CRLF" (nat_lit 195) (vs "\u000d\n" (nat_lit 194)), en P "NL" (nat_lit 197) (vs "\n" (nat_lit 196)), en P "_QUOPRI_MAP" (nat_lit 1225) (vr (nat_lit 24)), en P "_QUOPRI_HEADER_MAP" (nat_lit 1226) (vr (nat_lit 29)), en P "_QUOPRI_BODY_MAP" (nat_lit 1227) (vr (nat_lit 31)), en P "ascii_lowercase" (nat_lit 1229) (vs "abcdefghijklmnopqrstuvwxyz" (nat_lit 1228)), en P "ascii_uppercase" (nat_lit 1231) (vs "ABCDEFGHIJKLMNOPQRSTUVWXYZ" (nat_lit 1230)), en P "ascii_letters" (nat_lit 1233) (vs "abcdefghijklmnopqrstuvwxyzABCDEFGHIJKLMNOPQRSTUVWXYZ" (nat_lit 1232)), en P "digits" (nat_lit 1235) (vs "0123456789" (nat_lit 1234)), en P "hexdigits" (nat_lit 1240) (vs "0123456789abcdefABCDEF" (nat_lit 1239)), en P "unquote" (nat_lit 1746) (vr (nat_lit 44)), en P "quote" (nat_lit 1753) (vr (nat_lit 51)), en P "_QUOPRI_BODY_ENCODE_MAP" (nat_lit 1754) (vr (nat_lit 53))].toArray (nat_lit 25)), [].toArray⟩),
  (12, ⟨.none, none, (.fields [(vi (nat_lit 1) (nat_lit 0)), (vi (nat_lit 0) (nat_lit 0)), (vr (nat_lit 20)), (vi (nat_lit 20) (nat_lit 0)), (vi (nat_lit 0) (nat_lit 0)), (vr (nat_lit 43)), (vi (nat_lit 22) (nat_lit 0)), (vi (nat_lit 0) (nat_lit 0)), (vr (nat_lit 50))].toArray), [].toArray⟩),
  (38, ⟨(.type "tuple"), none, (.seq [].toArray (nat_lit 0)), [].toArray⟩),
  (39, ⟨.none, none, (.fields [].toArray), [].toArray⟩),
  (40, ⟨(.type "tuple"), none, (.seq [(vs "s" (nat_lit 1743))].toArray (nat_lit 0)), [].toArray⟩),
  (41, ⟨(.type "tuple"), none, (.seq [].toArray (nat_lit 0)), [].toArray⟩),
  (42, fnO 15 .none .none .none (nat_lit 0) .none .none),
  (43, ⟨(.type "code"), none, (.fields [(vs "unquote" (nat_lit 1740)), (vs "unquote" (nat_lit 1741)), (vs "/claim/cut.py" (nat_lit 1742)), (vi (nat_lit 20) (nat_lit 0)), (vi (nat_lit 1) (nat_lit 0)), (vi (nat_lit 0) (nat_lit 0)), (vi (nat_lit 0) (nat_lit 0)), (vi (nat_lit 3) (nat_lit 0)), (vr (nat_lit 38)), (.bool true), (vi (nat_lit 181) (nat_lit 0)), (vr (nat_lit 39)), .none, (vr (nat_lit 40)), (vr (nat_lit 41)), (vr (nat_lit 42)), (vi (nat_lit 1744) (nat_lit 0)), (vi (nat_lit 20) (nat_lit 0)), (vs "/claim/cut.py" (nat_lit 1745))].toArray), [].toArray⟩),
  (44, fnO 15 (.type "function") (vs "cpy313.email.quoprimime" (nat_lit 1241)) (vr (nat_lit 43)) (nat_lit 3) .none .none),
  (45, ⟨(.type "tuple"), none, (.seq [].toArray (nat_lit 0)), [].toArray⟩),
  (46, ⟨.none, none, (.fields [].toArray), [].toArray⟩),
  (47, ⟨(.type "tuple"), none, (.seq [(vs "c" (nat_lit 1750))].toArray (nat_lit 0)), [].toArray⟩),
  (48, ⟨(.type "tuple"), none, (.seq [].toArray (nat_lit 0)), [].toArray⟩),
  (49, fnO 16 .none .none .none (nat_lit 0) .none .none),
  (50, ⟨(.type "code"), none, (.fields [(vs "quote" (nat_lit 1747)), (vs "quote" (nat_lit 1748)), (vs "/claim/cut.py" (nat_lit 1749)), (vi (nat_lit 22) (nat_lit 0)), (vi (nat_lit 1) (nat_lit 0)), (vi (nat_lit 0) (nat_lit 0)), (vi (nat_lit 0) (nat_lit 0)), (vi (nat_lit 3) (nat_lit 0)), (vr (nat_lit 45)), (.bool true), (vi (nat_lit 181) (nat_lit 0)), (vr (nat_lit 46)), .none, (vr (nat_lit 47)), (vr (nat_lit 48)), (vr (nat_lit 49)), (vi (nat_lit 1751) (nat_lit 0)), (vi (nat_lit 22) (nat_lit 0)), (vs "/claim/cut.py" (nat_lit 1752))].toArray), [].toArray⟩),
  (51, fnO 16 (.type "function") (vs "cpy313.email.quoprimime" (nat_lit 1241)) (vr (nat_lit 50)) (nat_lit 3) .none .none),
  (52, ⟨(.type "slice"), none, (.fields [.none, .none, .none].toArray), [].toArray⟩),
  (53, lO lE 0),
  (54, ⟨(.type "bytes_iterator"), none, (.fields [.none, (vi (nat_lit 2) (nat_lit 0))].toArray), [].toArray⟩),
  (55, ⟨(.type "tuple"), none, (.seq [].toArray (nat_lit 0)), [].toArray⟩),
  (56, ⟨(.type "StopIteration"), none, (.fields [(vr (nat_lit 55)), .none, .none, .none, (.bool false), .none].toArray), [].toArray⟩)] (tr7 P)
noncomputable def tr9 (P : Params) : BT := edit [(3, ⟨(.type "dict"), none, (.dict [en P "__name__" (nat_lit 165) (vs "cpy313.base64" (nat_lit 1829)), en P "__doc__" (nat_lit 166) .none, en P "__package__" (nat_lit 167) .none, en P "__loader__" (nat_lit 168) (.builtin "__main__.__loader__#opaque"), en P "__spec__" (nat_lit 169) .none, en P "__annotations__" (nat_lit 170) (vr (nat_lit 6)), en P "__builtins__" (nat_lit 171) (vr (nat_lit 4)), en P "__file__" (nat_lit 173) (vs "/claim/cut.py" (nat_lit 172)), en P "__cached__" (nat_lit 174) .none, en P "_wall" (nat_lit 193) (vr (nat_lit 21)), en P "CRLF" (nat_lit 195) (vs "\u000d\n" (nat_lit 194)), en P "NL" (nat_lit 197) (vs "\n" (nat_lit 196)), en P "_QUOPRI_MAP" (nat_lit 1225) (vr (nat_lit 24)), en P "_QUOPRI_HEADER_MAP" (nat_lit 1226) (vr (nat_lit 29)), en P "_QUOPRI_BODY_MAP" (nat_lit 1227) (vr (nat_lit 31)), en P "ascii_lowercase" (nat_lit 1229) (vs "abcdefghijklmnopqrstuvwxyz" (nat_lit 1228)), en P "ascii_uppercase" (nat_lit 1231) (vs "ABCDEFGHIJKLMNOPQRSTUVWXYZ" (nat_lit 1230)), en P "ascii_letters" (nat_lit 1233) (vs "abcdefghijklmnopqrstuvwxyzABCDEFGHIJKLMNOPQRSTUVWXYZ" (nat_lit 1232)), en P "digits" (nat_lit 1235) (vs "0123456789" (nat_lit 1234)), en P "hexdigits" (nat_lit 1240) (vs "0123456789abcdefABCDEF" (nat_lit 1239)), en P "unquote" (nat_lit 1746) (vr (nat_lit 44)), en P "quote" (nat_lit 1753) (vr (nat_lit 51)), en P "_QUOPRI_BODY_ENCODE_MAP" (nat_lit 1754) (vr (nat_lit 53)), en P "body_encode" (nat_lit 1781) (vr (nat_lit 64)), en P "decode" (nat_lit 1794) (vr (nat_lit 72)), en P "_buffer" (nat_lit 1804) (vr (nat_lit 79)), en P "_truth" (nat_lit 1812) (vr (nat_lit 86)), en P "_B64" (nat_lit 1814) (vb [(nat_lit 65), (nat_lit 66), (nat_lit 67), (nat_lit 68), (nat_lit 69), (nat_lit 70), (nat_lit 71), (nat_lit 72), (nat_lit 73), (nat_lit 74), (nat_lit 75), (nat_lit 76), (nat_lit 77), (nat_lit 78), (nat_lit 79), (nat_lit 80), (nat_lit 81), (nat_lit 82), (nat_lit 83), (nat_lit 84), (nat_lit 85), (nat_lit 86), (nat_lit 87), (nat_lit 88), (nat_lit 89), (nat_lit 90), (nat_lit 97), (nat_lit 98), (nat_lit 99), (nat_lit 100), (nat_lit 101), (nat_lit 102), (nat_lit 103), (nat_lit 104), (nat_lit 105), (nat_lit 106), (nat_lit 107), (nat_lit 108), (nat_lit 109), (nat_lit 110), (nat_lit 111), (nat_lit 112), (nat_lit 113), (nat_lit 114), (nat_lit 115), (nat_lit 116), (nat_lit 117), (nat_lit 118), (nat_lit 119), (nat_lit 120), (nat_lit 121), (nat_lit 122), (nat_lit 48), (nat_lit 49), (nat_lit 50), (nat_lit 51), (nat_lit 52), (nat_lit 53), (nat_lit 54), (nat_lit 55), (nat_lit 56), (nat_lit 57), (nat_lit 43), (nat_lit 47)] (nat_lit 1813)), en P "b2a_base64" (nat_lit 1828) (vr (nat_lit 94)), en P "b64encode" (nat_lit 1839) (vr (nat_lit 102))].toArray (nat_lit 32)), [].toArray⟩),
  (12, ⟨.none, none, (.fields [(vi (nat_lit 1) (nat_lit 0)), (vi (nat_lit 0) (nat_lit 0)), (vr (nat_lit 20)), (vi (nat_lit 20) (nat_lit 0)), (vi (nat_lit 0) (nat_lit 0)), (vr (nat_lit 43)), (vi (nat_lit 22) (nat_lit 0)), (vi (nat_lit 0) (nat_lit 0)), (vr (nat_lit 50)), (vi (nat_lit 28) (nat_lit 0)), (vi (nat_lit 0) (nat_lit 0)), (vr (nat_lit 63)), (vi (nat_lit 66) (nat_lit 0)), (vi (nat_lit 0) (nat_lit 0)), (vr (nat_lit 71)), (vi (nat_lit 97) (nat_lit 0)), (vi (nat_lit 0) (nat_lit 0)), (vr (nat_lit 78)), (vi (nat_lit 104) (nat_lit 0)), (vi (nat_lit 0) (nat_lit 0)), (vr (nat_lit 85)), (vi (nat_lit 110) (nat_lit 0)), (vi (nat_lit 0) (nat_lit 0)), (vr (nat_lit 93)), (vi (nat_lit 133) (nat_lit 0)), (vi (nat_lit 0) (nat_lit 0)), (vr (nat_lit 101))].toArray), [].toArray⟩),
  (57, ⟨(.type "tuple"), none, (.seq [(vi (nat_lit 76) (nat_lit 1762)), (vs "\n" (nat_lit 196))].toArray (nat_lit 0)), [].toArray⟩),
  (58, ⟨(.type "tuple"), none, (.seq [].toArray (nat_lit 0)), [].toArray⟩),
  (59, ⟨.none, none, (.fields [].toArray), [].toArray⟩),
  (60, ⟨(.type "tuple"), none, (.seq [(vs "body" (nat_lit 1766)), (vs "maxlinelen" (nat_lit 1767)), (vs "eol" (nat_lit 1768)), (vs "soft_break" (nat_lit 1769)), (vs "maxlinelen1" (nat_lit 1770)), (vs "encoded_body" (nat_lit 1771)), (vs "append" (nat_lit 1772)), (vs "line" (nat_lit 1773)), (vs "start" (nat_lit 1774)), (vs "laststart" (nat_lit 1775)), (vs "stop" (nat_lit 1776)), (vs "room" (nat_lit 1777)), (vs "q" (nat_lit 1778))].toArray (nat_lit 0)), [].toArray⟩),
  (61, ⟨(.type "tuple"), none, (.seq [].toArray (nat_lit 0)), [].toArray⟩),
  (62, fnO 20 .none .none .none (nat_lit 0) .none .none),
  (63, ⟨(.type "code"), none, (.fields [(vs "body_encode" (nat_lit 1763)), (vs "body_encode" (nat_lit 1764)), (vs "/claim/cut.py" (nat_lit 1765)), (vi (nat_lit 28) (nat_lit 0)), (vi (nat_lit 3) (nat_lit 0)), (vi (nat_lit 0) (nat_lit 0)), (vi (nat_lit 0) (nat_lit 0)), (vi (nat_lit 3) (nat_lit 0)), (vr (nat_lit 58)), (.bool true), (vi (nat_lit 181) (nat_lit 0)), (vr (nat_lit 59)), .none, (vr (nat_lit 60)), (vr (nat_lit 61)), (vr (nat_lit 62)), (vi (nat_lit 1779) (nat_lit 0)), (vi (nat_lit 28) (nat_lit 0)), (vs "/claim/cut.py" (nat_lit 1780))].toArray), [].toArray⟩),
  (64, fnO 20 (.type "function") (vs "cpy313.email.quoprimime" (nat_lit 1241)) (vr (nat_lit 63)) (nat_lit 3) (vr (nat_lit 57)) .none),
  (65, ⟨(.type "tuple"), none, (.seq [(vs "\n" (nat_lit 196))].toArray (nat_lit 0)), [].toArray⟩),
  (66, ⟨(.type "tuple"), none, (.seq [].toArray (nat_lit 0)), [].toArray⟩),
  (67, ⟨.none, none, (.fields [].toArray), [].toArray⟩),
  (68, ⟨(.type "tuple"), none, (.seq [(vs "encoded" (nat_lit 1785)), (vs "eol" (nat_lit 1786)), (vs "decoded" (nat_lit 1787)), (vs "line" (nat_lit 1788)), (vs "i" (nat_lit 1789)), (vs "n" (nat_lit 1790)), (vs "c" (nat_lit 1791))].toArray (nat_lit 0)), [].toArray⟩),
  (69, ⟨(.type "tuple"), none, (.seq [].toArray (nat_lit 0)), [].toArray⟩),
  (70, fnO 21 .none .none .none (nat_lit 0) .none .none),
  (71, ⟨(.type "code"), none, (.fields [(vs "decode" (nat_lit 1782)), (vs "decode" (nat_lit 1783)), (vs "/claim/cut.py" (nat_lit 1784)), (vi (nat_lit 66) (nat_lit 0)), (vi (nat_lit 2) (nat_lit 0)), (vi (nat_lit 0) (nat_lit 0)), (vi (nat_lit 0) (nat_lit 0)), (vi (nat_lit 3) (nat_lit 0)), (vr (nat_lit 66)), (.bool true), (vi (nat_lit 181) (nat_lit 0)), (vr (nat_lit 67)), .none, (vr (nat_lit 68)), (vr (nat_lit 69)), (vr (nat_lit 70)), (vi (nat_lit 1792) (nat_lit 0)), (vi (nat_lit 66) (nat_lit 0)), (vs "/claim/cut.py" (nat_lit 1793))].toArray), [].toArray⟩),
  (72, fnO 21 (.type "function") (vs "cpy313.email.quoprimime" (nat_lit 1241)) (vr (nat_lit 71)) (nat_lit 3) (vr (nat_lit 65)) .none),
  (73, ⟨(.type "tuple"), none, (.seq [].toArray (nat_lit 0)), [].toArray⟩),
  (74, ⟨.none, none, (.fields [].toArray), [].toArray⟩),
  (75, ⟨(.type "tuple"), none, (.seq [(vs "data" (nat_lit 1800)), (vs "t" (nat_lit 1801))].toArray (nat_lit 0)), [].toArray⟩),
  (76, ⟨(.type "tuple"), none, (.seq [].toArray (nat_lit 0)), [].toArray⟩),
  (77, fnO 23 .none .none .none (nat_lit 0) .none .none),
  (78, ⟨(.type "code"), none, (.fields [(vs "_buffer" (nat_lit 1797)), (vs "_buffer" (nat_lit 1798)), (vs "/claim/cut.py" (nat_lit 1799)), (vi (nat_lit 97) (nat_lit 0)), (vi (nat_lit 1) (nat_lit 0)), (vi (nat_lit 0) (nat_lit 0)), (vi (nat_lit 0) (nat_lit 0)), (vi (nat_lit 3) (nat_lit 0)), (vr (nat_lit 73)), (.bool true), (vi (nat_lit 181) (nat_lit 0)), (vr (nat_lit 74)), .none, (vr (nat_lit 75)), (vr (nat_lit 76)), (vr (nat_lit 77)), (vi (nat_lit 1802) (nat_lit 0)), (vi (nat_lit 97) (nat_lit 0)), (vs "/claim/cut.py" (nat_lit 1803))].toArray), [].toArray⟩),
  (79, fnO 23 (.type "function") (vs "binascii" (nat_lit 1795)) (vr (nat_lit 78)) (nat_lit 3) .none .none),
  (80, ⟨(.type "tuple"), none, (.seq [].toArray (nat_lit 0)), [].toArray⟩),
  (81, ⟨.none, none, (.fields [].toArray), [].toArray⟩),
  (82, ⟨(.type "tuple"), none, (.seq [(vs "x" (nat_lit 1808)), (vs "t" (nat_lit 1809))].toArray (nat_lit 0)), [].toArray⟩),
  (83, ⟨(.type "tuple"), none, (.seq [].toArray (nat_lit 0)), [].toArray⟩),
  (84, fnO 24 .none .none .none (nat_lit 0) .none .none),
  (85, ⟨(.type "code"), none, (.fields [(vs "_truth" (nat_lit 1805)), (vs "_truth" (nat_lit 1806)), (vs "/claim/cut.py" (nat_lit 1807)), (vi (nat_lit 104) (nat_lit 0)), (vi (nat_lit 1) (nat_lit 0)), (vi (nat_lit 0) (nat_lit 0)), (vi (nat_lit 0) (nat_lit 0)), (vi (nat_lit 3) (nat_lit 0)), (vr (nat_lit 80)), (.bool true), (vi (nat_lit 181) (nat_lit 0)), (vr (nat_lit 81)), .none, (vr (nat_lit 82)), (vr (nat_lit 83)), (vr (nat_lit 84)), (vi (nat_lit 1810) (nat_lit 0)), (vi (nat_lit 104) (nat_lit 0)), (vs "/claim/cut.py" (nat_lit 1811))].toArray), [].toArray⟩),
  (86, fnO 24 (.type "function") (vs "binascii" (nat_lit 1795)) (vr (nat_lit 85)) (nat_lit 3) .none .none),
  (87, ⟨(.type "dict"), none, (.dict [en P "newline" (nat_lit 1815) (.bool true)].toArray (nat_lit 1)), [].toArray⟩),
  (88, ⟨(.type "tuple"), none, (.seq [].toArray (nat_lit 0)), [].toArray⟩),
  (89, ⟨.none, none, (.fields [].toArray), [].toArray⟩),
  (90, ⟨(.type "tuple"), none, (.seq [(vs "data" (nat_lit 1819)), (vs "newline" (nat_lit 1820)), (vs "bin_data" (nat_lit 1821)), (vs "out" (nat_lit 1822)), (vs "leftbits" (nat_lit 1823)), (vs "leftchar" (nat_lit 1824)), (vs "b" (nat_lit 1825))].toArray (nat_lit 0)), [].toArray⟩),
  (91, ⟨(.type "tuple"), none, (.seq [].toArray (nat_lit 0)), [].toArray⟩),
  (92, fnO 26 .none .none .none (nat_lit 0) .none .none),
  (93, ⟨(.type "code"), none, (.fields [(vs "b2a_base64" (nat_lit 1816)), (vs "b2a_base64" (nat_lit 1817)), (vs "/claim/cut.py" (nat_lit 1818)), (vi (nat_lit 110) (nat_lit 0)), (vi (nat_lit 1) (nat_lit 0)), (vi (nat_lit 1) (nat_lit 0)), (vi (nat_lit 1) (nat_lit 0)), (vi (nat_lit 3) (nat_lit 0)), (vr (nat_lit 88)), (.bool true), (vi (nat_lit 181) (nat_lit 0)), (vr (nat_lit 89)), .none, (vr (nat_lit 90)), (vr (nat_lit 91)), (vr (nat_lit 92)), (vi (nat_lit 1826) (nat_lit 0)), (vi (nat_lit 110) (nat_lit 0)), (vs "/claim/cut.py" (nat_lit 1827))].toArray), [].toArray⟩),
  (94, fnO 26 (.type "function") (vs "binascii" (nat_lit 1795)) (vr (nat_lit 93)) (nat_lit 3) .none (vr (nat_lit 87))),
  (95, ⟨(.type "tuple"), none, (.seq [.none].toArray (nat_lit 0)), [].toArray⟩),
  (96, ⟨(.type "tuple"), none, (.seq [].toArray (nat_lit 0)), [].toArray⟩),
  (97, ⟨.none, none, (.fields [].toArray), [].toArray⟩),
  (98, ⟨(.type "tuple"), none, (.seq [(vs "s" (nat_lit 1834)), (vs "altchars" (nat_lit 1835)), (vs "encoded" (nat_lit 1836))].toArray (nat_lit 0)), [].toArray⟩),
  (99, ⟨(.type "tuple"), none, (.seq [].toArray (nat_lit 0)), [].toArray⟩),
  (100, fnO 28 .none .none .none (nat_lit 0) .none .none),
  (101, ⟨(.type "code"), none, (.fields [(vs "b64encode" (nat_lit 1831)), (vs "b64encode" (nat_lit 1832)), (vs "/claim/cut.py" (nat_lit 1833)), (vi (nat_lit 133) (nat_lit 0)), (vi (nat_lit 2) (nat_lit 0)), (vi (nat_lit 0) (nat_lit 0)), (vi (nat_lit 0) (nat_lit 0)), (vi (nat_lit 3) (nat_lit 0)), (vr (nat_lit 96)), (.bool true), (vi (nat_lit 181) (nat_lit 0)), (vr (nat_lit 97)), .none, (vr (nat_lit 98)), (vr (nat_lit 99)), (vr (nat_lit 100)), (vi (nat_lit 1837) (nat_lit 0)), (vi (nat_lit 133) (nat_lit 0)), (vs "/claim/cut.py" (nat_lit 1838))].toArray), [].toArray⟩),
  (102, fnO 28 (.type "function") (vs "cpy313.base64" (nat_lit 1829)) (vr (nat_lit 101)) (nat_lit 3) (vr (nat_lit 95)) .none)] (tr8 P)
noncomputable def tr10 (P : Params) : BT := edit [(3, ⟨(.type "dict"), none, (.dict [en P "__name__" (nat_lit 165) (vs "law_nb0180_01" (nat_lit 1840)), en P "__doc__" (nat_lit 166) .none, en P "__package__" (nat_lit 167) .none, en P "__loader__" (nat_lit 168) (.builtin "__main__.__loader__#opaque"), en P "__spec__" (nat_lit 169) .none, en P "__annotations__" (nat_lit 170) (vr (nat_lit 6)), en P "__builtins__" (nat_lit 171) (vr (nat_lit 4)), en P "__file__" (nat_lit 173) (vs "/claim/cut.py" (nat_lit 172)), en P "__cached__" (nat_lit 174) .none, en P "_wall" (nat_lit 193) (vr (nat_lit 21)), en P "CRLF" (nat_lit 195) (vs "\u000d\n" (nat_lit 194)), en P "NL" (nat_lit 197) (vs "\n" (nat_lit 196)), en P "_QUOPRI_MAP" (nat_lit 1225) (vr (nat_lit 24)), en P "_QUOPRI_HEADER_MAP" (nat_lit 1226) (vr (nat_lit 29)), en P "_QUOPRI_BODY_MAP" (nat_lit 1227) (vr (nat_lit 31)), en P "ascii_lowercase" (nat_lit 1229) (vs "abcdefghijklmnopqrstuvwxyz" (nat_lit 1228)), en P "ascii_uppercase" (nat_lit 1231) (vs "ABCDEFGHIJKLMNOPQRSTUVWXYZ" (nat_lit 1230)), en P "ascii_letters" (nat_lit 1233) (vs "abcdefghijklmnopqrstuvwxyzABCDEFGHIJKLMNOPQRSTUVWXYZ" (nat_lit 1232)), en P "digits" (nat_lit 1235) (vs "0123456789" (nat_lit 1234)), en P "hexdigits" (nat_lit 1240) (vs "0123456789abcdefABCDEF" (nat_lit 1239)), en P "unquote" (nat_lit 1746) (vr (nat_lit 44)), en P "quote" (nat_lit 1753) (vr (nat_lit 51)), en P "_QUOPRI_BODY_ENCODE_MAP" (nat_lit 1754) (vr (nat_lit 53)), en P "body_encode" (nat_lit 1781) (vr (nat_lit 64)), en P "decode" (nat_lit 1794) (vr (nat_lit 72)), en P "_buffer" (nat_lit 1804) (vr (nat_lit 79)), en P "_truth" (nat_lit 1812) (vr (nat_lit 86)), en P "_B64" (nat_lit 1814) (vb [(nat_lit 65), (nat_lit 66), (nat_lit 67), (nat_lit 68), (nat_lit 69), (nat_lit 70), (nat_lit 71), (nat_lit 72), (nat_lit 73), (nat_lit 74), (nat_lit 75), (nat_lit 76), (nat_lit 77), (nat_lit 78), (nat_lit 79), (nat_lit 80), (nat_lit 81), (nat_lit 82), (nat_lit 83), (nat_lit 84), (nat_lit 85), (nat_lit 86), (nat_lit 87), (nat_lit 88), (nat_lit 89), (nat_lit 90), (nat_lit 97), (nat_lit 98), (nat_lit 99), (nat_lit 100), (nat_lit 101), (nat_lit 102), (nat_lit 103), (nat_lit 104), (nat_lit 105), (nat_lit 106), (nat_lit 107), (nat_lit 108), (nat_lit 109), (nat_lit 110), (nat_lit 111), (nat_lit 112), (nat_lit 113), (nat_lit 114), (nat_lit 115), (nat_lit 116), (nat_lit 117), (nat_lit 118), (nat_lit 119), (nat_lit 120), (nat_lit 121), (nat_lit 122), (nat_lit 48), (nat_lit 49), (nat_lit 50), (nat_lit 51), (nat_lit 52), (nat_lit 53), (nat_lit 54), (nat_lit 55), (nat_lit 56), (nat_lit 57), (nat_lit 43), (nat_lit 47)] (nat_lit 1813)), en P "b2a_base64" (nat_lit 1828) (vr (nat_lit 94)), en P "b64encode" (nat_lit 1839) (vr (nat_lit 102)), en P "_law_figures" (nat_lit 1850) (vr (nat_lit 109)), en P "_law_octets" (nat_lit 1856) (vr (nat_lit 114)), en P "_law_signs" (nat_lit 1862) (vr (nat_lit 119)), en P "_law_lines" (nat_lit 1872) (vr (nat_lit 126)), en P "_law_piece" (nat_lit 1880) (vr (nat_lit 133)), en P "_law_rows" (nat_lit 1886) (vr (nat_lit 138)), en P "law" (nat_lit 1892) (vr (nat_lit 143))].toArray (nat_lit 39)), [].toArray⟩),
  (12, ⟨.none, none, (.fields [(vi (nat_lit 1) (nat_lit 0)), (vi (nat_lit 0) (nat_lit 0)), (vr (nat_lit 20)), (vi (nat_lit 20) (nat_lit 0)), (vi (nat_lit 0) (nat_lit 0)), (vr (nat_lit 43)), (vi (nat_lit 22) (nat_lit 0)), (vi (nat_lit 0) (nat_lit 0)), (vr (nat_lit 50)), (vi (nat_lit 28) (nat_lit 0)), (vi (nat_lit 0) (nat_lit 0)), (vr (nat_lit 63)), (vi (nat_lit 66) (nat_lit 0)), (vi (nat_lit 0) (nat_lit 0)), (vr (nat_lit 71)), (vi (nat_lit 97) (nat_lit 0)), (vi (nat_lit 0) (nat_lit 0)), (vr (nat_lit 78)), (vi (nat_lit 104) (nat_lit 0)), (vi (nat_lit 0) (nat_lit 0)), (vr (nat_lit 85)), (vi (nat_lit 110) (nat_lit 0)), (vi (nat_lit 0) (nat_lit 0)), (vr (nat_lit 93)), (vi (nat_lit 133) (nat_lit 0)), (vi (nat_lit 0) (nat_lit 0)), (vr (nat_lit 101)), (vi (nat_lit 140) (nat_lit 0)), (vi (nat_lit 0) (nat_lit 0)), (vr (nat_lit 108)), (vi (nat_lit 148) (nat_lit 0)), (vi (nat_lit 0) (nat_lit 0)), (vr (nat_lit 113)), (vi (nat_lit 155) (nat_lit 0)), (vi (nat_lit 0) (nat_lit 0)), (vr (nat_lit 118)), (vi (nat_lit 162) (nat_lit 0)), (vi (nat_lit 0) (nat_lit 0)), (vr (nat_lit 125)), (vi (nat_lit 172) (nat_lit 0)), (vi (nat_lit 0) (nat_lit 0)), (vr (nat_lit 132)), (vi (nat_lit 177) (nat_lit 0)), (vi (nat_lit 0) (nat_lit 0)), (vr (nat_lit 137)), (vi (nat_lit 192) (nat_lit 0)), (vi (nat_lit 0) (nat_lit 0)), (vr (nat_lit 142))].toArray), [].toArray⟩),
  (103, ⟨(.type "tuple"), none, (.seq [].toArray (nat_lit 0)), [].toArray⟩),
  (104, ⟨.none, none, (.fields [].toArray), [].toArray⟩),
  (105, ⟨(.type "tuple"), none, (.seq [(vs "picks" (nat_lit 1845)), (vs "figures" (nat_lit 1846)), (vs "x" (nat_lit 1847))].toArray (nat_lit 0)), [].toArray⟩),
  (106, ⟨(.type "tuple"), none, (.seq [].toArray (nat_lit 0)), [].toArray⟩),
  (107, fnO 30 .none .none .none (nat_lit 0) .none .none),
  (108, ⟨(.type "code"), none, (.fields [(vs "_law_figures" (nat_lit 1842)), (vs "_law_figures" (nat_lit 1843)), (vs "/claim/cut.py" (nat_lit 1844)), (vi (nat_lit 140) (nat_lit 0)), (vi (nat_lit 1) (nat_lit 0)), (vi (nat_lit 0) (nat_lit 0)), (vi (nat_lit 0) (nat_lit 0)), (vi (nat_lit 3) (nat_lit 0)), (vr (nat_lit 103)), (.bool true), (vi (nat_lit 181) (nat_lit 0)), (vr (nat_lit 104)), .none, (vr (nat_lit 105)), (vr (nat_lit 106)), (vr (nat_lit 107)), (vi (nat_lit 1848) (nat_lit 0)), (vi (nat_lit 140) (nat_lit 0)), (vs "/claim/cut.py" (nat_lit 1849))].toArray), [].toArray⟩),
  (109, fnO 30 (.type "function") (vs "law_nb0180_01" (nat_lit 1840)) (vr (nat_lit 108)) (nat_lit 3) .none .none),
  (110, ⟨(.type "tuple"), none, (.seq [].toArray (nat_lit 0)), [].toArray⟩),
  (111, ⟨.none, none, (.fields [].toArray), [].toArray⟩),
  (112, fnO 31 .none .none .none (nat_lit 0) .none .none),
  (113, ⟨(.type "code"), none, (.fields [(vs "_law_octets" (nat_lit 1851)), (vs "_law_octets" (nat_lit 1852)), (vs "/claim/cut.py" (nat_lit 1853)), (vi (nat_lit 148) (nat_lit 0)), (vi (nat_lit 1) (nat_lit 0)), (vi (nat_lit 0) (nat_lit 0)), (vi (nat_lit 0) (nat_lit 0)), (vi (nat_lit 3) (nat_lit 0)), (vr (nat_lit 110)), (.bool true), (vi (nat_lit 181) (nat_lit 0)), (vr (nat_lit 111)), .none, .none, .none, (vr (nat_lit 112)), (vi (nat_lit 1854) (nat_lit 0)), (vi (nat_lit 148) (nat_lit 0)), (vs "/claim/cut.py" (nat_lit 1855))].toArray), [].toArray⟩),
  (114, fnO 31 (.type "function") (vs "law_nb0180_01" (nat_lit 1840)) (vr (nat_lit 113)) (nat_lit 3) .none .none),
  (115, ⟨(.type "tuple"), none, (.seq [].toArray (nat_lit 0)), [].toArray⟩),
  (116, ⟨.none, none, (.fields [].toArray), [].toArray⟩),
  (117, fnO 32 .none .none .none (nat_lit 0) .none .none),
  (118, ⟨(.type "code"), none, (.fields [(vs "_law_signs" (nat_lit 1857)), (vs "_law_signs" (nat_lit 1858)), (vs "/claim/cut.py" (nat_lit 1859)), (vi (nat_lit 155) (nat_lit 0)), (vi (nat_lit 2) (nat_lit 0)), (vi (nat_lit 0) (nat_lit 0)), (vi (nat_lit 0) (nat_lit 0)), (vi (nat_lit 3) (nat_lit 0)), (vr (nat_lit 115)), (.bool true), (vi (nat_lit 181) (nat_lit 0)), (vr (nat_lit 116)), .none, .none, .none, (vr (nat_lit 117)), (vi (nat_lit 1860) (nat_lit 0)), (vi (nat_lit 155) (nat_lit 0)), (vs "/claim/cut.py" (nat_lit 1861))].toArray), [].toArray⟩),
  (119, fnO 32 (.type "function") (vs "law_nb0180_01" (nat_lit 1840)) (vr (nat_lit 118)) (nat_lit 3) .none .none),
  (120, ⟨(.type "tuple"), none, (.seq [].toArray (nat_lit 0)), [].toArray⟩),
  (121, ⟨.none, none, (.fields [].toArray), [].toArray⟩),
  (122, ⟨(.type "tuple"), none, (.seq [(vs "signs" (nat_lit 1866)), (vs "lines" (nat_lit 1867)), (vs "before" (nat_lit 1868)), (vs "sign" (nat_lit 1869))].toArray (nat_lit 0)), [].toArray⟩),
  (123, ⟨(.type "tuple"), none, (.seq [].toArray (nat_lit 0)), [].toArray⟩),
  (124, fnO 33 .none .none .none (nat_lit 0) .none .none),
  (125, ⟨(.type "code"), none, (.fields [(vs "_law_lines" (nat_lit 1863)), (vs "_law_lines" (nat_lit 1864)), (vs "/claim/cut.py" (nat_lit 1865)), (vi (nat_lit 162) (nat_lit 0)), (vi (nat_lit 1) (nat_lit 0)), (vi (nat_lit 0) (nat_lit 0)), (vi (nat_lit 0) (nat_lit 0)), (vi (nat_lit 3) (nat_lit 0)), (vr (nat_lit 120)), (.bool true), (vi (nat_lit 181) (nat_lit 0)), (vr (nat_lit 121)), .none, (vr (nat_lit 122)), (vr (nat_lit 123)), (vr (nat_lit 124)), (vi (nat_lit 1870) (nat_lit 0)), (vi (nat_lit 162) (nat_lit 0)), (vs "/claim/cut.py" (nat_lit 1871))].toArray), [].toArray⟩),
  (126, fnO 33 (.type "function") (vs "law_nb0180_01" (nat_lit 1840)) (vr (nat_lit 125)) (nat_lit 3) .none .none),
  (127, ⟨(.type "tuple"), none, (.seq [].toArray (nat_lit 0)), [].toArray⟩),
  (128, ⟨.none, none, (.fields [].toArray), [].toArray⟩),
  (129, ⟨(.type "tuple"), none, (.seq [(vs "sign" (nat_lit 1876)), (vs "figures" (nat_lit 1877))].toArray (nat_lit 0)), [].toArray⟩),
  (130, ⟨(.type "tuple"), none, (.seq [].toArray (nat_lit 0)), [].toArray⟩),
  (131, fnO 34 .none .none .none (nat_lit 0) .none .none),
  (132, ⟨(.type "code"), none, (.fields [(vs "_law_piece" (nat_lit 1873)), (vs "_law_piece" (nat_lit 1874)), (vs "/claim/cut.py" (nat_lit 1875)), (vi (nat_lit 172) (nat_lit 0)), (vi (nat_lit 1) (nat_lit 0)), (vi (nat_lit 0) (nat_lit 0)), (vi (nat_lit 0) (nat_lit 0)), (vi (nat_lit 3) (nat_lit 0)), (vr (nat_lit 127)), (.bool true), (vi (nat_lit 181) (nat_lit 0)), (vr (nat_lit 128)), .none, (vr (nat_lit 129)), (vr (nat_lit 130)), (vr (nat_lit 131)), (vi (nat_lit 1878) (nat_lit 0)), (vi (nat_lit 172) (nat_lit 0)), (vs "/claim/cut.py" (nat_lit 1879))].toArray), [].toArray⟩),
  (133, fnO 34 (.type "function") (vs "law_nb0180_01" (nat_lit 1840)) (vr (nat_lit 132)) (nat_lit 3) .none .none),
  (134, ⟨(.type "tuple"), none, (.seq [].toArray (nat_lit 0)), [].toArray⟩),
  (135, ⟨.none, none, (.fields [].toArray), [].toArray⟩),
  (136, fnO 35 .none .none .none (nat_lit 0) .none .none),
  (137, ⟨(.type "code"), none, (.fields [(vs "_law_rows" (nat_lit 1881)), (vs "_law_rows" (nat_lit 1882)), (vs "/claim/cut.py" (nat_lit 1883)), (vi (nat_lit 177) (nat_lit 0)), (vi (nat_lit 2) (nat_lit 0)), (vi (nat_lit 0) (nat_lit 0)), (vi (nat_lit 0) (nat_lit 0)), (vi (nat_lit 3) (nat_lit 0)), (vr (nat_lit 134)), (.bool true), (vi (nat_lit 181) (nat_lit 0)), (vr (nat_lit 135)), .none, .none, .none, (vr (nat_lit 136)), (vi (nat_lit 1884) (nat_lit 0)), (vi (nat_lit 177) (nat_lit 0)), (vs "/claim/cut.py" (nat_lit 1885))].toArray), [].toArray⟩),
  (138, fnO 35 (.type "function") (vs "law_nb0180_01" (nat_lit 1840)) (vr (nat_lit 137)) (nat_lit 3) .none .none),
  (139, ⟨(.type "tuple"), none, (.seq [].toArray (nat_lit 0)), [].toArray⟩),
  (140, ⟨.none, none, (.fields [].toArray), [].toArray⟩),
  (141, fnO 36 .none .none .none (nat_lit 0) .none .none),
  (142, ⟨(.type "code"), none, (.fields [(vs "law" (nat_lit 1887)), (vs "law" (nat_lit 1888)), (vs "/claim/cut.py" (nat_lit 1889)), (vi (nat_lit 192) (nat_lit 0)), (vi (nat_lit 1) (nat_lit 0)), (vi (nat_lit 0) (nat_lit 0)), (vi (nat_lit 0) (nat_lit 0)), (vi (nat_lit 3) (nat_lit 0)), (vr (nat_lit 139)), (.bool true), (vi (nat_lit 181) (nat_lit 0)), (vr (nat_lit 140)), .none, .none, .none, (vr (nat_lit 141)), (vi (nat_lit 1890) (nat_lit 0)), (vi (nat_lit 192) (nat_lit 0)), (vs "/claim/cut.py" (nat_lit 1891))].toArray), [].toArray⟩),
  (143, fnO 36 (.type "function") (vs "law_nb0180_01" (nat_lit 1840)) (vr (nat_lit 142)) (nat_lit 3) .none .none)] (tr9 P)
noncomputable def s0 (P : Params) (os : OsState) : SharedT := ⟨tr0 P, 11, {}, #[], {}, 181, os⟩
noncomputable def p0 : Pos := ps 0 0 0 0
noncomputable def s1 (P : Params) (os : OsState) : SharedT := ⟨tr1 P, 15, {}, #[], {}, 187, os⟩
noncomputable def p1 : Pos := ps 0 0 0 0
noncomputable def s2 (P : Params) (os : OsState) : SharedT := ⟨tr2 P, 22, {}, #[], {}, 198, os⟩
noncomputable def p2 : Pos := ps 5 0 5 2
noncomputable def s3 (P : Params) (os : OsState) : SharedT := ⟨tr3 P, 28, {}, #[], {}, 1226, os⟩
noncomputable def p3 : Pos := ps 6 0 6 11
noncomputable def s4 (P : Params) (os : OsState) : SharedT := ⟨tr4 P, 32, {}, #[], {}, 1243, os⟩
noncomputable def p4 : Pos := ps 14 0 14 8
noncomputable def s5 (P : Params) (os : OsState) : SharedT := ⟨tr5 P, 35, {}, #[], {}, 1451, os⟩
noncomputable def p5 : Pos := ps 15 9 15 74
noncomputable def s6 (P : Params) (os : OsState) : SharedT := ⟨tr6 P, 35, {}, #[], {}, 1454, os⟩
noncomputable def p6 : Pos := ps 17 0 17 28
noncomputable def s7 (P : Params) (os : OsState) : SharedT := ⟨tr7 P, 38, {}, #[], {}, 1740, os⟩
noncomputable def p7 : Pos := ps 18 9 18 110
noncomputable def s8 (P : Params) (os : OsState) : SharedT := ⟨tr8 P, 57, {}, #[], {}, 1762, os⟩
noncomputable def p8 : Pos := ps 27 4 27 5
noncomputable def s9 (P : Params) (os : OsState) : SharedT := ⟨tr9 P, 103, {}, #[], {}, 1840, os⟩
noncomputable def p9 : Pos := ps 133 0 138 18
noncomputable def s10 (P : Params) (os : OsState) : SharedT := ⟨tr10 P, 144, {}, #[], {}, 1893, os⟩
noncomputable def p10 : Pos := ps 192 0 210 75

noncomputable def fTb : String → Option Builtin := PySem.W.Fast.tw14364793385576792824
noncomputable def cH : Code := .body (behindTheImports hP) envH
noncomputable def tF : Frame := topFrame (ps 0 0 0 0)
noncomputable def fGo (w : World) (n : Nat) (s : SharedT) (t : Thread) := PySem.W.Fast.tw10295753902157049106 PySem.W.Fast.tw14364793385576792824 hP w 11 (some (.ref 6)) 1 n s t
noncomputable def fRun (w : World) (n : Nat) (s : SharedT) (t : Thread) := PySem.W.Fast.tw10110043849684766642 PySem.W.Fast.tw14364793385576792824 hP w 11 (some (.ref 6)) 1 n s t
noncomputable def fDen (c : Code) := PySem.W.Fast.tw11892475500146522536 PySem.W.Fast.tw14364793385576792824 c
noncomputable def e3 : PySem.Expr := match stsH 3 1 with
  | [.Assign _ v _] => v
  | _ => default
noncomputable def env3 : Env := { scope := (match e3 with | .ListComp _ _ s _ => s | _ => default), locals := 25, globals := 3, cells := [], code := .ref 13, frame := some 14 }
noncomputable def c3 : Code := .compLoop e3 0 (.ref 23) (.ref 24) env3
noncomputable def cF (i a : Nat) : Code := match stsH i 1 with
  | [.For t _ b o _] => .forLoop t (.ref a) b o envH
  | _ => default
noncomputable def thF (i a : Nat) (p q : Pos) (k : Result → Sem PySem.Fin) : Thread := ⟨fDen (cF i a), cF i a, p, [.ret k none false [] cH q [], tF]⟩
noncomputable def l3 (P : Params) (os : OsState) (i : Nat) : SharedT := ⟨edit [(22, ⟨.type "range", none, .fields [vi 0 199, vi 256 198, vi 1 200].toArray, #[]⟩), (23, ⟨.type "range_iterator", none, .fields [vi i 0, vi (256 - i) 0, vi 1 0].toArray, #[]⟩),
  (24, lO (qs qi i 0) i), (25, ⟨.type "dict", none, .dict [en P "c" 202 (vi (i - 1) (197 + 4 * i))].toArray 1, #[]⟩)] (tr2 P), 26, {}, #[], {}, 201 + 4 * i, os⟩
noncomputable def th3 (k : Result → Sem PySem.Fin) : Thread := ⟨fDen c3, c3, ps 6 15 6 26, [.ret k none true [.ref 25, .ref 24] cH (ps 6 36 6 46) [], tF]⟩
noncomputable def l12 (P : Params) (os : OsState) (m : Nat) : SharedT := ⟨edit [(3, ⟨(.type "dict"), none, (.dict [en P "__name__" (nat_lit 165) (vs "cpy313.email.quoprimime" (nat_lit 1241)), en P "__doc__" (nat_lit 166) .none, en P "__package__" (nat_lit 167) .none, en P "__loader__" (nat_lit 168) (.builtin "__main__.__loader__#opaque"), en P "__spec__" (nat_lit 169) .none, en P "__annotations__" (nat_lit 170) (vr (nat_lit 6)), en P "__builtins__" (nat_lit 171) (vr (nat_lit 4)), en P "__file__" (nat_lit 173) (vs "/claim/cut.py" (nat_lit 172)), en P "__cached__" (nat_lit 174) .none, en P "_wall" (nat_lit 193) (vr (nat_lit 21)), en P "CRLF" (nat_lit 195) (vs "\u000d\n" (nat_lit 194)), en P "NL" (nat_lit 197) (vs "\n" (nat_lit 196)), en P "_QUOPRI_MAP" (nat_lit 1225) (vr (nat_lit 24)), en P "_QUOPRI_HEADER_MAP" (nat_lit 1226) (vr (nat_lit 29)), en P "_QUOPRI_BODY_MAP" (nat_lit 1227) (vr (nat_lit 31)), en P "ascii_lowercase" (nat_lit 1229) (vs "abcdefghijklmnopqrstuvwxyz" (nat_lit 1228)), en P "ascii_uppercase" (nat_lit 1231) (vs "ABCDEFGHIJKLMNOPQRSTUVWXYZ" (nat_lit 1230)), en P "ascii_letters" (nat_lit 1233) (vs "abcdefghijklmnopqrstuvwxyzABCDEFGHIJKLMNOPQRSTUVWXYZ" (nat_lit 1232)), en P "digits" (nat_lit 1235) (vs "0123456789" (nat_lit 1234)), en P "hexdigits" (nat_lit 1240) (vs "0123456789abcdefABCDEF" (nat_lit 1239)), en P "c" (nat_lit 1251) (vi (bs12.getD (m - 1) 0) (1247 + 3 * m))].toArray (nat_lit 21)), [].toArray⟩), (29, lO (lH m) 0), (32, ⟨.type "bytes_iterator", none, .fields [vb bs12 1249, vi m 0].toArray, #[]⟩)] (tr4 P), 33, {}, #[], {}, 1250 + 3 * m, os⟩
noncomputable def th12 : (Result → Sem PySem.Fin) → Thread := thF 12 32 (ps 16 4 16 25) (ps 15 9 15 74)
noncomputable def l14 (P : Params) (os : OsState) (m : Nat) : SharedT := ⟨edit [(3, ⟨(.type "dict"), none, (.dict [en P "__name__" (nat_lit 165) (vs "cpy313.email.quoprimime" (nat_lit 1241)), en P "__doc__" (nat_lit 166) .none, en P "__package__" (nat_lit 167) .none, en P "__loader__" (nat_lit 168) (.builtin "__main__.__loader__#opaque"), en P "__spec__" (nat_lit 169) .none, en P "__annotations__" (nat_lit 170) (vr (nat_lit 6)), en P "__builtins__" (nat_lit 171) (vr (nat_lit 4)), en P "__file__" (nat_lit 173) (vs "/claim/cut.py" (nat_lit 172)), en P "__cached__" (nat_lit 174) .none, en P "_wall" (nat_lit 193) (vr (nat_lit 21)), en P "CRLF" (nat_lit 195) (vs "\u000d\n" (nat_lit 194)), en P "NL" (nat_lit 197) (vs "\n" (nat_lit 196)), en P "_QUOPRI_MAP" (nat_lit 1225) (vr (nat_lit 24)), en P "_QUOPRI_HEADER_MAP" (nat_lit 1226) (vr (nat_lit 29)), en P "_QUOPRI_BODY_MAP" (nat_lit 1227) (vr (nat_lit 31)), en P "ascii_lowercase" (nat_lit 1229) (vs "abcdefghijklmnopqrstuvwxyz" (nat_lit 1228)), en P "ascii_uppercase" (nat_lit 1231) (vs "ABCDEFGHIJKLMNOPQRSTUVWXYZ" (nat_lit 1230)), en P "ascii_letters" (nat_lit 1233) (vs "abcdefghijklmnopqrstuvwxyzABCDEFGHIJKLMNOPQRSTUVWXYZ" (nat_lit 1232)), en P "digits" (nat_lit 1235) (vs "0123456789" (nat_lit 1234)), en P "hexdigits" (nat_lit 1240) (vs "0123456789abcdefABCDEF" (nat_lit 1239)), en P "c" (nat_lit 1251) (vi (bs14.getD (m - 1) 0) (1452 + 3 * m))].toArray (nat_lit 21)), [].toArray⟩), (31, lO (lB m) 0), (35, ⟨.type "bytes_iterator", none, .fields [vb bs14 1454, vi m 0].toArray, #[]⟩)] (tr6 P), 36, {}, #[], {}, 1455 + 3 * m, os⟩
noncomputable def th14 : (Result → Sem PySem.Fin) → Thread := thF 14 35 (ps 19 4 19 23) (ps 18 9 18 110)
end HH

namespace HH
set_option maxRecDepth 100000
set_option maxHeartbeats 0
/-! three loops, some turns at a time -/
section
variable (w : World) (os : OsState) (k : Result → Sem PySem.Fin)
theorem x3_0 : fGo w 629 (l3 w.params os 1) (th3 k) = some (l3 w.params os 18, th3 k) := by kernel_rfl
theorem x3_1 : fGo w 629 (l3 w.params os 18) (th3 k) = some (l3 w.params os 35, th3 k) := by kernel_rfl
theorem x3_2 : fGo w 629 (l3 w.params os 35) (th3 k) = some (l3 w.params os 52, th3 k) := by kernel_rfl
theorem x3_3 : fGo w 629 (l3 w.params os 52) (th3 k) = some (l3 w.params os 69, th3 k) := by kernel_rfl
theorem x3_4 : fGo w 629 (l3 w.params os 69) (th3 k) = some (l3 w.params os 86, th3 k) := by kernel_rfl
theorem x3_5 : fGo w 629 (l3 w.params os 86) (th3 k) = some (l3 w.params os 103, th3 k) := by kernel_rfl
theorem x3_6 : fGo w 629 (l3 w.params os 103) (th3 k) = some (l3 w.params os 120, th3 k) := by kernel_rfl
theorem x3_7 : fGo w 629 (l3 w.params os 120) (th3 k) = some (l3 w.params os 137, th3 k) := by kernel_rfl
theorem x3_8 : fGo w 629 (l3 w.params os 137) (th3 k) = some (l3 w.params os 154, th3 k) := by kernel_rfl
theorem x3_9 : fGo w 629 (l3 w.params os 154) (th3 k) = some (l3 w.params os 171, th3 k) := by kernel_rfl
theorem x3_10 : fGo w 629 (l3 w.params os 171) (th3 k) = some (l3 w.params os 188, th3 k) := by kernel_rfl
theorem x3_11 : fGo w 629 (l3 w.params os 188) (th3 k) = some (l3 w.params os 205, th3 k) := by kernel_rfl
theorem x3_12 : fGo w 629 (l3 w.params os 205) (th3 k) = some (l3 w.params os 222, th3 k) := by kernel_rfl
theorem x3_13 : fGo w 629 (l3 w.params os 222) (th3 k) = some (l3 w.params os 239, th3 k) := by kernel_rfl
theorem x3_14 : fGo w 629 (l3 w.params os 239) (th3 k) = some (l3 w.params os 256, th3 k) := by kernel_rfl
theorem x12_0 : fGo w 990 (l12 w.params os 1) (th12 k) = some (l12 w.params os 23, th12 k) := by kernel_rfl
theorem x12_1 : fGo w 990 (l12 w.params os 23) (th12 k) = some (l12 w.params os 45, th12 k) := by kernel_rfl
theorem x12_2 : fGo w 990 (l12 w.params os 45) (th12 k) = some (l12 w.params os 67, th12 k) := by kernel_rfl
theorem x14_0 : fGo w 1080 (l14 w.params os 1) (th14 k) = some (l14 w.params os 25, th14 k) := by kernel_rfl
theorem x14_1 : fGo w 1080 (l14 w.params os 25) (th14 k) = some (l14 w.params os 49, th14 k) := by kernel_rfl
theorem x14_2 : fGo w 1080 (l14 w.params os 49) (th14 k) = some (l14 w.params os 73, th14 k) := by kernel_rfl
theorem x14_3 : fGo w 990 (l14 w.params os 73) (th14 k) = some (l14 w.params os 95, th14 k) := by kernel_rfl
end
end HH

namespace HH
set_option maxRecDepth 100000
set_option maxHeartbeats 0
noncomputable def whole (a n : Nat) (p : Pos) : Thread := piecesOf (stsH a n) envH cH p [tF]
noncomputable def ww (w : World) (b1 b2 : Bool) : World := (w.withFollow "special-get-raises" b2).withFollow "comprehension-iter-twice" b1
noncomputable def w1 (w : World) (b : Bool) : World := w.withFollow "special-get-raises" b
noncomputable def kOf : Option (SharedT × Thread) → Result → Sem PySem.Fin
  | some (_, ⟨_, _, _, .ret k _ _ _ _ _ _ :: _⟩) => k
  | _ => fun _ => .unsupported ""
noncomputable def k3 (w : World) (os : OsState) (n : Nat) : Result → Sem PySem.Fin := kOf (fGo w n (s2 w.params os) (whole 3 1 p2))
noncomputable def k12 (w : World) (os : OsState) : Result → Sem PySem.Fin := kOf (fGo w 89 (s4 w.params os) (whole 12 1 p4))
noncomputable def k14 (w : World) (os : OsState) : Result → Sem PySem.Fin := kOf (fGo w 55 (s6 w.params os) (whole 14 1 p6))
theorem y0 (w : World) (os : OsState) : fRun w 48 (s1 w.params os) (whole 0 3 p1) = some (.next, s2 w.params os, cH, p2) := by kernel_rfl
theorem a3 (w : World) (os : OsState) : ∀ b : Bool, fGo (ww w false b) 89 (s2 (ww w false b).params os) (whole 3 1 p2) = some (l3 (ww w false b).params os 1, th3 (k3 (ww w false b) os 89)) ∧
    fGo (ww w true b) 79 (s2 (ww w true b).params os) (whole 3 1 p2) = some (l3 (ww w true b).params os 1, th3 (k3 (ww w true b) os 79))
  | false => ⟨by kernel_rfl, by kernel_rfl⟩
  | true => ⟨by kernel_rfl, by kernel_rfl⟩
theorem z3 (w : World) (os : OsState) : ∀ b : Bool, fRun (ww w false b) 28 (l3 (ww w false b).params os 256) (th3 (k3 (ww w false b) os 89)) = some (.next, s3 (ww w false b).params os, cH, p3) ∧
    fRun (ww w true b) 28 (l3 (ww w true b).params os 256) (th3 (k3 (ww w true b) os 79)) = some (.next, s3 (ww w true b).params os, cH, p3)
  | false => ⟨by kernel_rfl, by kernel_rfl⟩
  | true => ⟨by kernel_rfl, by kernel_rfl⟩
theorem y3 (w : World) (os : OsState) : fRun w 133 (s3 w.params os) (whole 4 8 p3) = some (.next, s4 w.params os, cH, p4) := by kernel_rfl
theorem a12 (w : World) (os : OsState) : ∀ b : Bool, fGo (w1 w b) 89 (s4 (w1 w b).params os) (whole 12 1 p4) = some (l12 (w1 w b).params os 1, th12 (k12 (w1 w b) os)) ∧
    fRun (w1 w b) 18 (l12 (w1 w b).params os 67) (th12 (k12 (w1 w b) os)) = some (.next, s5 (w1 w b).params os, cH, p5)
  | false => ⟨by kernel_rfl, by kernel_rfl⟩
  | true => ⟨by kernel_rfl, by kernel_rfl⟩
theorem y5 (w : World) (os : OsState) : fRun w 25 (s5 w.params os) (whole 13 1 p5) = some (.next, s6 w.params os, cH, p6) := by kernel_rfl
theorem a14 (w : World) (os : OsState) : ∀ b : Bool, fGo (w1 w b) 55 (s6 (w1 w b).params os) (whole 14 1 p6) = some (l14 (w1 w b).params os 1, th14 (k14 (w1 w b) os)) ∧
    fRun (w1 w b) 18 (l14 (w1 w b).params os 95) (th14 (k14 (w1 w b) os)) = some (.next, s7 (w1 w b).params os, cH, p7)
  | false => ⟨by kernel_rfl, by kernel_rfl⟩
  | true => ⟨by kernel_rfl, by kernel_rfl⟩
theorem y7 (w : World) (os : OsState) : ∀ b : Bool, fRun (w1 w b) 209 (s7 (w1 w b).params os) (whole 15 5 p7) = some (.next, s8 (w1 w b).params os, cH, p8)
  | false => by kernel_rfl
  | true => by kernel_rfl
theorem y8 (w : World) (os : OsState) : fRun w 243 (s8 w.params os) (whole 20 9 p8) = some (.next, s9 w.params os, cH, p9) := by kernel_rfl
theorem y9 (w : World) (os : OsState) : fRun w 207 (s9 w.params os) (whole 29 8 p9) = some (.next, s10 w.params os, cH, p10) := by kernel_rfl
end HH

namespace HH
set_option maxRecDepth 100000
set_option maxHeartbeats 0
section
variable {w : World} {n : Nat} {s : SharedT} {t : Thread}
noncomputable abbrev aH : Option Value := some (.ref 6)
noncomputable abbrev gSeg (w : World) (n : Nat) (s : Shared) (t : Thread) := segRun treeTable hP w 11 aH 1 n s t
theorem goOf {s' : SharedT} {t' : Thread} (h : fGo w n s t = some (s', t')) : segGo treeTable hP w 11 aH 1 n s.abs t = some (s'.abs, t') := by
  refine segGo_of ?_
  rw [PySem.W.Fast.te10295753902157049106, PySem.W.Fast.te14364793385576792824]
  exact h
theorem runOf {s' : SharedT} {f : Flow} {c : Code} {q : Pos} (h : fRun w n s t = some (f, s', c, q)) : gSeg w n s.abs t = some (f, s'.abs, c, q) := by
  refine segRun_of ?_
  rw [PySem.W.Fast.te10110043849684766642, PySem.W.Fast.te14364793385576792824]
  exact h
theorem segFuel (k : Nat) : ∀ {n : Nat} {s : Shared} {t : Thread} {r : Flow × Shared × Code × Pos}, gSeg w n s t = some r → gSeg w (n + k) s t = some r
  | 0, _, _, _, h => by cases h
  | n + 1, s, t, r, h => by
    rw [show n + 1 + k = n + k + 1 by omega]
    unfold gSeg segRun at h ⊢
    cases he : endAt 1 t with
    | some f => rw [he] at h; exact h
    | none =>
      rw [he] at h
      cases hk : stepOk 11 aH t with
      | false => rw [hk] at h; cases h
      | true =>
        rw [hk] at h
        cases hs : step (denote treeTable) hP w s t with
        | halt o s' => rw [hs] at h; cases h
        | go s' t' => rw [hs] at h; exact segFuel k h
theorem goOn {m : Nat} {s' : SharedT} {t' : Thread} {r : Flow × Shared × Code × Pos} (h : fGo w n s t = some (s', t')) (k : gSeg w m s'.abs t' = some r) : gSeg w (n + m) s.abs t = some r := seg_go (goOf h) k
theorem castN {m : Nat} {s : Shared} {r : Option (Flow × Shared × Code × Pos)} (e : n = m) (h : gSeg w n s t = r) : gSeg w m s t = r := e ▸ h
end
noncomputable abbrev r1 : String := "comprehension-iter-twice"
noncomputable abbrev r2 : String := "special-get-raises"
noncomputable def Pc (n a m : Nat) (s s' : Params → OsState → SharedT) (p p' : Pos) (w : World) : Prop :=
  ∀ os, gSeg w n (s w.params os).abs (piecesOf (stsH a m) envH cH p [topFrame (ps 0 0 0 0)]) = some (.next, (s' w.params os).abs, cH, p')
theorem q0 : ∀ w, Pc 48 0 3 s1 s2 p1 p2 w := fun w os => runOf (y0 w os)
theorem q3 : ∀ w, Pc 9552 3 1 s2 s3 p2 p3 w :=
  byRow2 r1 (fun w => byRow2 r2 (P := fun w => Pc 9552 3 1 s2 s3 p2 p3 (w.withFollow r1 false)) (fun w os => wF w os false) (fun w os => wF w os true) w)
    (fun w => byRow2 r2 (P := fun w => Pc 9552 3 1 s2 s3 p2 p3 (w.withFollow r1 true)) (fun w os => wT w os false) (fun w os => wT w os true) w)
where
  loop (w : World) (os : OsState) (k : Result → Sem PySem.Fin) {r : Flow × Shared × Code × Pos} (h : gSeg w 28 (l3 w.params os 256).abs (th3 k) = some r) : gSeg w 9463 (l3 w.params os 1).abs (th3 k) = some r :=
    castN (by decide) (goOn (x3_0 w os k) (goOn (x3_1 w os k) (goOn (x3_2 w os k) (goOn (x3_3 w os k) (goOn (x3_4 w os k) (goOn (x3_5 w os k) (goOn (x3_6 w os k) (goOn (x3_7 w os k) (goOn (x3_8 w os k) (goOn (x3_9 w os k) (goOn (x3_10 w os k) (goOn (x3_11 w os k) (goOn (x3_12 w os k) (goOn (x3_13 w os k) (goOn (x3_14 w os k) (h))))))))))))))))
  wF (w : World) (os : OsState) (b : Bool) : gSeg (ww w false b) 9552 (s2 (ww w false b).params os).abs (whole 3 1 p2) = some (.next, (s3 (ww w false b).params os).abs, cH, p3) :=
    castN (by decide) (goOn (a3 w os b).1 (loop (ww w false b) os _ (runOf (z3 w os b).1)))
  wT (w : World) (os : OsState) (b : Bool) : gSeg (ww w true b) 9552 (s2 (ww w true b).params os).abs (whole 3 1 p2) = some (.next, (s3 (ww w true b).params os).abs, cH, p3) :=
    castN (by decide) (segFuel 10 (goOn (a3 w os b).2 (loop (ww w true b) os _ (runOf (z3 w os b).2))))
theorem q4 : ∀ w, Pc 133 4 8 s3 s4 p3 p4 w := fun w os => runOf (y3 w os)
theorem q12 : ∀ w, Pc 3077 12 1 s4 s5 p4 p5 w :=
  byRow2 r2 (fun w os => wB w os false) (fun w os => wB w os true)
where
  wB (w : World) (os : OsState) (b : Bool) : gSeg (w1 w b) 3077 (s4 (w1 w b).params os).abs (whole 12 1 p4) = some (.next, (s5 (w1 w b).params os).abs, cH, p5) :=
    castN (by decide) (goOn (a12 w os b).1 (goOn (x12_0 (w1 w b) os _) (goOn (x12_1 (w1 w b) os _) (goOn (x12_2 (w1 w b) os _) (runOf (a12 w os b).2)))))
theorem q13 : ∀ w, Pc 25 13 1 s5 s6 p5 p6 w := fun w os => runOf (y5 w os)
theorem q14 : ∀ w, Pc 4303 14 1 s6 s7 p6 p7 w :=
  byRow2 r2 (fun w os => wB w os false) (fun w os => wB w os true)
where
  wB (w : World) (os : OsState) (b : Bool) : gSeg (w1 w b) 4303 (s6 (w1 w b).params os).abs (whole 14 1 p6) = some (.next, (s7 (w1 w b).params os).abs, cH, p7) :=
    castN (by decide) (goOn (a14 w os b).1 (goOn (x14_0 (w1 w b) os _) (goOn (x14_1 (w1 w b) os _) (goOn (x14_2 (w1 w b) os _) (goOn (x14_3 (w1 w b) os _) (runOf (a14 w os b).2))))))
theorem q15 : ∀ w, Pc 209 15 5 s7 s8 p7 p8 w :=
  byRow2 r2 (fun w os => runOf (y7 w os false)) (fun w os => runOf (y7 w os true))
theorem q20 : ∀ w, Pc 243 20 9 s8 s9 p8 p9 w := fun w os => runOf (y8 w os)
theorem q29 : ∀ w, Pc 207 29 8 s9 s10 p9 p10 w := fun w os => runOf (y9 w os)
theorem body_is : behindTheImports hP = stsH 0 3 ++ (stsH 3 1 ++ (stsH 4 8 ++ (stsH 12 1 ++ (stsH 13 1 ++ (stsH 14 1 ++ (stsH 15 5 ++ (stsH 20 9 ++ (stsH 29 8 ++ [])))))))) := by kernel_rfl
theorem u_pre (w : World) (os : OsState) : PySem.W.Fast.tw15667345088766844465 PySem.W.Fast.tw14364793385576792824 hP w 11 aH 12 (s0 w.params os).abs (topStub hP) = some ((s1 w.params os).abs, ⟨fDen cH, cH, p1, [topFrame (ps 0 0 0 0)]⟩) := by kernel_rfl
theorem u_fin (w : World) (os : OsState) : topRun treeTable hP w 11 aH 2 (s10 w.params os).abs ⟨doneF .next, cH, p10, [topFrame (ps 0 0 0 0)]⟩ = some (s10 w.params os).abs := by kernel_rfl
theorem u_block (w : World) (os : OsState) : gSeg w 1 (s1 w.params os).abs (blockOf (behindTheImports hP) envH cH p1 [topFrame (ps 0 0 0 0)]) = some (.next, (s1 w.params os).abs, cH, p1) := by kernel_rfl
theorem u_top (w : World) (os : OsState) : topGo treeTable hP w 11 aH 12 (s0 w.params os).abs (topStub hP) = some ((s1 w.params os).abs, ⟨denote treeTable (.body (behindTheImports hP) envH), cH, p1, [topFrame (ps 0 0 0 0)]⟩) := by
  have h := u_pre w os
  unfold fDen at h
  rw [← PySem.W.Fast.te15667345088766844465, ← PySem.W.Fast.te11892475500146522536, ← PySem.W.Fast.te14364793385576792824] at h
  exact h
theorem u_rest (w : World) (os : OsState) : topRun treeTable hP w 11 aH (48 + (9552 + (133 + (3077 + (25 + (4303 + (209 + (243 + (207 + 2))))))))) (s1 w.params os).abs (restOf (behindTheImports hP) envH cH p1 [topFrame (ps 0 0 0 0)]) = some (s10 w.params os).abs :=
  (congrArg (fun b => topRun treeTable hP w 11 aH (48 + (9552 + (133 + (3077 + (25 + (4303 + (209 + (243 + (207 + 2))))))))) (s1 w.params os).abs (restOf b envH cH p1 [topFrame (ps 0 0 0 0)])) body_is).trans
    (piece_app (q0 w os) (piece_app (q3 w os) (piece_app (q4 w os) (piece_app (q12 w os) (piece_app (q13 w os) (piece_app (q14 w os) (piece_app (q15 w os) (piece_app (q20 w os) (piece_app (q29 w os) (piece_nil (u_fin w os)))))))))))
theorem runN (w : World) (os : OsState) : topRun treeTable hP w 11 aH (12 + (1 + (48 + (9552 + (133 + (3077 + (25 + (4303 + (209 + (243 + (207 + 2))))))))))) (s0 w.params os).abs (topStub hP) = some (s10 w.params os).abs :=
  go_top (u_top w os) (piece_block (u_block w os) (u_rest w os))
theorem runH (w : World) (os : OsState) : topRun treeTable hP w 11 aH 17812 (s0 w.params os).abs (topStub hP) = some (s10 w.params os).abs :=
  (congrArg (fun n => topRun treeTable hP w 11 aH n (s0 w.params os).abs (topStub hP)) (show 17812 = (12 + (1 + (48 + (9552 + (133 + (3077 + (25 + (4303 + (209 + (243 + (207 + 2))))))))))) by decide)).trans (runN w os)
end HH

namespace HH
set_option maxRecDepth 100000
set_option maxHeartbeats 0
noncomputable def fImp (w : World) (n : Nat) (s : SharedT) (t : Thread) := PySem.W.Fast.tw14789777615569096658 PySem.W.Fast.tw14364793385576792824 (opening hP) w n s t
noncomputable def s00 : SharedT := ⟨.nil, 0, {}, #[], {}, (start (opening hP)).1.toks, (start (opening hP)).1.os⟩
theorem v_go (w : World) : (fImp w 390 s00 (start (opening hP)).2).map (fun r => (r.1, r.2.atExitBegin)) = some (s0 w.params (start (opening hP)).1.os, some []) := by kernel_rfl
theorem ends1 {tb : String → Option Builtin} {q : Program} {w : World} {s : Shared} {t : Thread} (h : t.atExitBegin = some []) : importEnds tb q w 1 s t = some s := by
  unfold importEnds
  rw [h]
theorem s00_is : s00.abs = (start (opening hP)).1 := by kernel_rfl
theorem v_ends (w : World) : importEnds treeTable (opening hP) w (390 + 1) (start (opening hP)).1 (start (opening hP)).2 = some (s0 w.params (start (opening hP)).1.os).abs := by
  obtain ⟨⟨s', t'⟩, h1, h2⟩ := Option.map_eq_some_iff.mp (v_go w)
  obtain ⟨rfl, h3⟩ := Prod.mk.inj h2
  have h4 : impGoT treeTable (opening hP) w 390 s00 (start (opening hP)).2 = some (s0 w.params (start (opening hP)).1.os, t') := by
    rw [PySem.W.Fast.te14789777615569096658, PySem.W.Fast.te14364793385576792824]
    exact h1
  have h5 := imp_go (N := 1) (impGo_of h4) (ends1 h3)
  rw [s00_is] at h5
  exact h5
theorem v_open : ∀ w : World, (fencedOpening treeTable hP w 35702).map (fun s => (s.heap, s.gens, s.drawn, s.toks)) = some (absHeap (tr0 w.params) 11 {}, #[], {}, 181) :=
  open_cut (M := 390 + 1) (He := fun P => absHeap (tr0 P) 11 {}) (H₀ := fun P => absHeap (tr0 P) 11 {}) v_ends (by decide) (fun w => by kernel_rfl)
theorem v_size : ∀ w : World, ((absHeap (tr0 w.params) 11 {}).isNs mainGlobals && (#[] : Array GenState).size == 0, (absHeap (tr0 w.params) 11 {}).objs.size, (absHeap (tr0 w.params) 11 {}).nsMap mainGlobals "__annotations__") = (true, 11, aH) := fun w => by kernel_rfl
end HH

namespace HH
set_option maxRecDepth 100000
set_option maxHeartbeats 0
theorem said : OpenLaw.wellSaid PySem.Challenge.rw_nb0180_01 = true := by
  rw [PySem.W.Fast.te9446332074065402090]
  unfold PySem.W.Fast.tw9446332074065402090
  repeat' (with_reducible refine look_both ?_ ?_)
  all_goals as_aux_lemma => kernel_rfl
noncomputable def vw : Program := view hP [0, 1, 2, 3, 4, 5, 6, 7, 8, 9, 10, 15, 16, 17, 23, 24, 25, 30, 31, 32, 33, 34, 35, 36]
noncomputable def lsH : List Str := [Str.ofString "_QUOPRI_MAP", Str.ofString "_QUOPRI_HEADER_MAP", Str.ofString "_QUOPRI_BODY_MAP", Str.ofString "ascii_letters", Str.ofString "hexdigits", Str.ofString "_QUOPRI_BODY_ENCODE_MAP", Str.ofString "body_encode", Str.ofString "decode", Str.ofString "b2a_base64", Str.ofString "b64encode"]
noncomputable def lvH : List (Str × WData) := [(Str.ofString "ascii_letters", .str (Str.ofString "abcdefghijklmnopqrstuvwxyzABCDEFGHIJKLMNOPQRSTUVWXYZ")), (Str.ofString "hexdigits", .str (Str.ofString "0123456789abcdefABCDEF"))]
noncomputable def h0 (P : Params) : Heap := absHeap (tr0 P) 11 {}
noncomputable def h1 (P : Params) : Heap := absHeap (tr10 P) 144 {}
noncomputable def f1 (w : World) (os : OsState) : Shared := ⟨h1 w.params, #[], {}, 1893, os⟩
theorem l1 (w : World) : (fun os => (staticsOk (importedModules hP.main.body) (h0 w.params) (h1 w.params) && namesBound hP (h1 w.params) && gensDone (f1 w os) && laidKept (h0 w.params) (h1 w.params))) = fun _ => true := by kernel_rfl
noncomputable def xtH (s : Shared) : Bool := xlAt vw lvH s && recOk (RowW.records PySem.Challenge.rw_nb0180_01.row.toRowW) s
theorem l2 (w : World) : (fun os => openSeen vw lsH (importedModules hP.main.body) xtH true (f1 w os)) = fun _ => openGood vw lsH := by kernel_rfl
theorem leH : Nat.ble 17812 35702 = true := by decide
theorem abs0 (P : Params) (os : OsState) : (s0 P os).abs = ⟨h0 P, #[], {}, 181, os⟩ := by kernel_rfl
theorem abs1 (P : Params) (os : OsState) : (s10 P os).abs = ⟨h1 P, #[], {}, 1893, os⟩ := by kernel_rfl
theorem runF (w : World) (os : OsState) : topRun treeTable hP w 11 aH 17812 ⟨h0 w.params, #[], {}, 181, os⟩ (topStub hP) = some ⟨h1 w.params, #[], {}, 1893, os⟩ := by
  have h := runH w os
  rw [abs0, abs1] at h
  exact h
theorem bareH : hP.bare := ⟨rfl, rfl, rfl, rfl, rfl, by decide +kernel⟩
theorem trip {α β γ : Type} {a a' : α} {b b' : β} {c c' : γ} (x : a = a') (y : b = b') (z : c = c') : (a, b, c) = (a', b', c') := by rw [x, y, z]
theorem openH : ∀ w : World, (fencedOpening treeTable hP w 35702).map (fun s => (s.heap, s.gens, s.drawn, s.toks)) = some (h0 w.params, #[], {}, 181) := v_open
theorem sizeH : ∀ w : World, ((h0 w.params).isNs mainGlobals && (#[] : Array GenState).size == 0, (h0 w.params).objs.size, (h0 w.params).nsMap mainGlobals "__annotations__") = (true, 11, aH) := v_size
theorem lookH (H : Hook) (e : ∀ w : World, (fun os => H.obs (f1 w os)) = fun _ => H.val w) (w : World) : (fun os => ((staticsOk (importedModules hP.main.body) (h0 w.params) (h1 w.params) && namesBound hP (h1 w.params) && gensDone (f1 w os) && laidKept (h0 w.params) (h1 w.params)),
   openSeen vw lsH (importedModules hP.main.body) xtH true (f1 w os), H.obs (f1 w os))) = fun _ => (true, openGood vw lsH, H.val w) :=
  funext fun os => trip (congrFun (l1 w) os) (congrFun (l2 w) os) (congrFun (e w) os)
theorem leftH (H : Hook) (e : ∀ w : World, (fun os => H.obs (f1 w os)) = fun _ => H.val w) : LeftO hP vw lsH xtH H.obs H.val 35702 :=
  LeftO.of_pieces (H₀ := h0) (H₁ := h1) (gs₀ := #[]) (gs₁ := #[]) (d₀ := {}) (d₁ := {}) (k₀ := 181) (k₁ := 1893) (m₀ := 11) (ann := aH) (M := 17812) openH sizeH runF leH (lookH H e)
theorem openIt (H : Hook) {d : DefRec} {kwd : List (Str × PySem.Expr)} (hdef : defOf vw PySem.Challenge.rw_nb0180_01.row.name = some (d, kwd)) (hp : PySem.Challenge.rw_nb0180_01.row.prog.theDef PySem.Challenge.rw_nb0180_01.row.name = some (d.params, d.body, d.scope))
    (hk : kwWritten? d.params.kwonlyargs d.params.kw_defaults = some kwd) (he : ∀ w : World, (fun os => H.obs (f1 w os)) = fun _ => H.val w) (hw : PySem.Challenge.rw_nb0180_01.row.toRowW.promised)
    (hc : WalkO vw lsH (XL vw lvH) H.says PySem.Challenge.rw_nb0180_01.row.toRowW d kwd fun f vs => PySem.call f vs)
    (said : PySem.Challenge.rw_nb0180_01.row.wellSaid = true) : PySem.Challenge.rw_nb0180_01.row.Holds :=
  holds_open (leftH H he) H.of H.keeps (fun s e => xl_of s (Bool.and_eq_true_iff.mp e).1) XL.keeps hdef hp hk (fun s e => recFacts_of (Bool.and_eq_true_iff.mp e).2) (by rfl) said (by decide +kernel) bareH hw hc
end HH

local macro_rules | `(tactic| o_law) => `(tactic| (refine holds_law HH.said ?_; intro))
local macro_rules | `(tactic| o_head $H) => `(tactic| (refine HH.openIt $H (by rfl) (by rfl) (by rfl) ?_ ?hw ?hc ‹_›; intro; kernel_rfl))
set_option maxRecDepth 100000 in
set_option maxHeartbeats 8000000 in
open_top hd for PySem.Challenge.rw_nb0180_01

end Mine
open PySem.Calls
namespace Mine
-- NbV
noncomputable def tx (l : List Nat) : Str := ⟨l.toArray⟩
theorem tx_cps (l : List Nat) : (tx l).cps.toList = l := by simp [tx]
theorem tx_len (l : List Nat) : (tx l).length = l.length := by simp [tx, Str.length]
theorem tx_app (a b : List Nat) : tx a ++ tx b = tx (a ++ b) := by
  show Str.append _ _ = _
  simp [Str.append, tx]
theorem tx_inj {a b : List Nat} : tx a = tx b ↔ a = b := by
  constructor
  · intro h; have := congrArg (fun x : Str => x.cps.toList) h; simpa [tx] using this
  · rintro rfl; rfl
theorem tx_beq (a b : List Nat) : (tx a == tx b) = decide (a = b) := by
  rw [Bool.eq_iff_iff, beq_iff_eq, decide_eq_true_eq]; exact tx_inj
theorem tx_bne (a b : List Nat) : (tx a != tx b) = decide (a ≠ b) := by
  rw [bne, tx_beq]; simp
noncomputable def hexU : List Nat := [48, 49, 50, 51, 52, 53, 54, 55, 56, 57, 65, 66, 67, 68, 69, 70]
noncomputable def figs (ns : List Int) : List Int := [7, 62] ++ ns.map fun x => if x % 4 < 2 then 62 + x % 4 else x / 4 % 64
noncomputable def safe (c : Nat) : Bool := c == 9 || (decide (32 ≤ c) && decide (c ≤ 126) && c != 61)
noncomputable def piece (c : Nat) : List Nat := if safe c then [c] else [61, hexU.getD (c / 16) 0, hexU.getD (c % 16) 0]
noncomputable def quo (c : Nat) : List Nat := [61, hexU.getD (c / 16) 0, hexU.getD (c % 16) 0]
noncomputable def tr (c : Nat) : List Nat := if safe c || c == 13 || c == 10 then [c] else quo c
noncomputable def lnStep (st : List (List Nat) × List Nat) (c : Nat) : List (List Nat) × List Nat :=
  (if c = 13 ∨ (c = 10 ∧ st.2 ≠ [13]) then [] :: st.1 else if c ≠ 10 then (match st.1 with | l :: r => (l ++ [c]) :: r | [] => []) else st.1, [c])
noncomputable def lnFold (cs : List Nat) : List (List Nat) × List Nat := cs.foldl lnStep ([[]], [])
theorem lnFold_snoc (cs : List Nat) (c : Nat) : lnFold (cs ++ [c]) = lnStep (lnFold cs) c := by simp [lnFold]
theorem lnFold_ne (cs : List Nat) : (lnFold cs).1 ≠ [] ∧ (lnFold cs).1.length ≤ cs.length + 1 ∧ ∀ l ∈ (lnFold cs).1, l.length ≤ cs.length := by
  suffices H : ∀ (cs : List Nat) (st : List (List Nat) × List Nat) (n : Nat), st.1 ≠ [] → st.1.length ≤ n + 1 → (∀ l ∈ st.1, l.length ≤ n) → (cs.foldl lnStep st).1 ≠ [] ∧ (cs.foldl lnStep st).1.length ≤ cs.length + n + 1 ∧ ∀ l ∈ (cs.foldl lnStep st).1, l.length ≤ cs.length + n by
    have := H cs ([[]], []) 0 (by simp) (by simp) (by simp)
    simpa [lnFold] using this
  intro cs
  induction cs with
  | nil => intro st n h1 h2 h3; simpa using ⟨h1, h2, h3⟩
  | cons c cs ih =>
    intro st n h1 h2 h3
    have := ih (lnStep st c) (n + 1) ?_ ?_ ?_
    · rw [List.foldl_cons]
      refine ⟨this.1, by have := this.2.1; simp only [List.length_cons]; omega, fun l hl => by have := this.2.2 l hl; simp only [List.length_cons]; omega⟩
    · unfold lnStep; obtain ⟨ls, b⟩ := st; cases ls with
      | nil => exact absurd rfl h1
      | cons l r => dsimp only; split <;> (try split) <;> simp
    · unfold lnStep; obtain ⟨ls, b⟩ := st; cases ls with
      | nil => exact absurd rfl h1
      | cons l r => dsimp only at h2 ⊢; split <;> (try split) <;> simp at h2 ⊢ <;> omega
    · unfold lnStep; obtain ⟨ls, b⟩ := st; cases ls with
      | nil => exact absurd rfl h1
      | cons l r =>
        dsimp only at h3 ⊢
        intro x hx
        split at hx
        · rcases List.mem_cons.mp hx with rfl | hx
          · simp
          · exact Nat.le_succ_of_le (h3 x hx)
        · split at hx
          · rcases List.mem_cons.mp hx with rfl | hx
            · have := h3 l (.head _); simp; omega
            · exact Nat.le_succ_of_le (h3 x (.tail _ hx))
          · exact Nat.le_succ_of_le (h3 x hx)
noncomputable def rwStep (R : Nat) (st : List (List Nat) × List Nat) (c : Nat) : List (List Nat) × List Nat :=
  if st.2.length + (piece c).length > R - 1 then (st.1 ++ [st.2], piece c) else (st.1, st.2 ++ piece c)
noncomputable def rwMerge (R : Nat) (st : List (List Nat) × List Nat) : List (List Nat) × List Nat :=
  match st.1.getLast? with
  | some x => if x.length + st.2.length = R then (st.1.dropLast, x ++ st.2) else st
  | none => st
noncomputable def rwEnd (R : Nat) (line : List Nat) (st : List (List Nat) × List Nat) : List (List Nat) × List Nat :=
  match line.getLast? with
  | some c => if c = 32 ∨ c = 9 then (if st.2.length + 2 ≤ R then (st.1, st.2.dropLast ++ quo c) else (st.1 ++ [st.2], [])) else rwMerge R st
  | none => rwMerge R st
noncomputable def rwFold (R : Nat) (line : List Nat) : List (List Nat) × List Nat := line.foldl (rwStep R) ([], [])
theorem piece_len (c : Nat) : 1 ≤ (piece c).length ∧ (piece c).length ≤ 3 := by unfold piece; split <;> simp
theorem rwFold_snoc (R : Nat) (cs : List Nat) (c : Nat) : rwFold R (cs ++ [c]) = rwStep R (rwFold R cs) c := by simp [rwFold]
theorem rwFold_len {R : Nat} (hR : 4 ≤ R) (cs : List Nat) : (rwFold R cs).1.length ≤ cs.length ∧ (rwFold R cs).2.length ≤ R - 1 ∧ ∀ x ∈ (rwFold R cs).1, x.length ≤ R - 1 := by
  suffices H : ∀ (cs : List Nat) (st : List (List Nat) × List Nat) (n : Nat), st.1.length ≤ n → st.2.length ≤ R - 1 → (∀ x ∈ st.1, x.length ≤ R - 1) → (cs.foldl (rwStep R) st).1.length ≤ cs.length + n ∧ (cs.foldl (rwStep R) st).2.length ≤ R - 1 ∧ ∀ x ∈ (cs.foldl (rwStep R) st).1, x.length ≤ R - 1 by
    simpa [rwFold] using H cs ([], []) 0 (by simp) (by simp) (by simp)
  intro cs
  induction cs with
  | nil => intro st n h1 h2 h3; simpa using ⟨h1, h2, h3⟩
  | cons c cs ih =>
    intro st n h1 h2 h3
    have hp := piece_len c
    have := ih (rwStep R st c) (n + 1) ?_ ?_ ?_
    · rw [List.foldl_cons]
      exact ⟨by have := this.1; simp only [List.length_cons]; omega, this.2⟩
    · unfold rwStep; split <;> simp <;> omega
    · unfold rwStep; split <;> simp <;> omega
    · unfold rwStep; split
      · intro x hx
        rcases List.mem_append.mp hx with hx | hx
        · exact h3 x hx
        · rw [List.mem_singleton.mp hx]; exact h2
      · exact h3
theorem rwEnd_len {R : Nat} {cs : List Nat} {dn dn' : List (List Nat)} {cur cur' : List Nat} (hR : 4 ≤ R) (hR2 : R ≤ 11) (he : (dn', cur') = rwEnd R cs (dn, cur)) (h1 : dn.length ≤ 1999) (h2 : cur.length ≤ R - 1) (h3 : ∀ x ∈ dn, x.length ≤ R - 1) :
    dn'.length ≤ 2000 ∧ cur'.length ≤ 30 ∧ ∀ x ∈ dn', x.length ≤ 30 := by
  have base : dn.length ≤ 2000 ∧ cur.length ≤ 30 ∧ ∀ x ∈ dn, x.length ≤ 30 := ⟨by omega, by omega, fun x hx => by have := h3 x hx; omega⟩
  have mg : (dn', cur') = rwMerge R (dn, cur) → dn'.length ≤ 2000 ∧ cur'.length ≤ 30 ∧ ∀ x ∈ dn', x.length ≤ 30 := by
    intro e
    unfold rwMerge at e
    split at e
    · rename_i x hx
      dsimp only at hx
      split at e
      · cases e
        refine ⟨by simp; omega, by rw [List.length_append]; have := h3 x (List.mem_of_getLast? hx); omega, fun y hy => base.2.2 y ((List.dropLast_sublist _).subset hy)⟩
      · cases e; exact base
    · cases e; exact base
  unfold rwEnd at he
  split at he
  · split at he
    · split at he
      · cases he; exact ⟨base.1, by simp [quo]; omega, base.2.2⟩
      · cases he
        refine ⟨by simp; omega, by simp, fun x hx => ?_⟩
        rcases List.mem_append.mp hx with hx | hx
        · exact base.2.2 x hx
        · rw [List.mem_singleton.mp hx]; exact base.2.1
    · exact mg he
  · exact mg he
noncomputable def rowsOf (R : Nat) (line : List Nat) : List (List Nat) := (rwEnd R line (rwFold R line)).1.map (· ++ [61]) ++ [(rwEnd R line (rwFold R line)).2]
noncomputable def b64L : List UInt8 := [65, 66, 67, 68, 69, 70, 71, 72, 73, 74, 75, 76, 77, 78, 79, 80, 81, 82, 83, 84, 85, 86, 87, 88, 89, 90, 97, 98, 99, 100, 101, 102, 103, 104, 105, 106, 107, 108, 109, 110, 111, 112, 113, 114, 115, 116, 117, 118, 119, 120, 121, 122, 48, 49, 50, 51, 52, 53, 54, 55, 56, 57, 43, 47]
noncomputable def b64 (i : Nat) : Nat := (b64L.getD i 0).toNat
noncomputable def em (lc : Nat) : Nat → Nat → List Nat × Nat
  | 0, lb => ([], lb)
  | f + 1, lb => if 6 ≤ lb then (b64 (lc / 2 ^ (lb - 6) % 64) :: (em lc f (lb - 6)).1, (em lc f (lb - 6)).2) else ([], lb)
theorem em_low (lc f lb : Nat) (h : lb < 6) : em lc f lb = ([], lb) := by
  cases f with
  | zero => rfl
  | succ f => rw [em, if_neg (by omega)]
noncomputable def b2aStep (st : List Nat × Nat × Nat) (b : Nat) : List Nat × Nat × Nat :=
  (st.1 ++ (em ((st.2.1 * 256 + b) % 65536) 3 (st.2.2 + 8)).1, (st.2.1 * 256 + b) % 65536, (em ((st.2.1 * 256 + b) % 65536) 3 (st.2.2 + 8)).2)
noncomputable def b2aFold (bs : List Nat) : List Nat × Nat × Nat := bs.foldl b2aStep ([], 0, 0)
noncomputable def b2aEnd (st : List Nat × Nat × Nat) : List Nat :=
  if st.2.2 = 2 then st.1 ++ [b64 (st.2.1 % 4 * 16), 61, 61] else if st.2.2 = 4 then st.1 ++ [b64 (st.2.1 % 16 * 4), 61] else st.1
theorem em_lt (lc : Nat) : ∀ (f lb : Nat), lb < 6 * f + 6 → (em lc f lb).2 < 6 ∧ (em lc f lb).1.length ≤ f
  | 0, lb, h => ⟨by simpa [em] using h, by simp [em]⟩
  | f + 1, lb, h => by
    rw [em]
    split
    · have := em_lt lc f (lb - 6) (by omega)
      exact ⟨this.1, by simp; omega⟩
    · exact ⟨by simp; omega, by simp⟩
theorem b2aFold_ok (bs : List Nat) : (b2aFold bs).2.2 < 6 ∧ (b2aFold bs).2.1 < 65536 ∧ (b2aFold bs).1.length ≤ 3 * bs.length := by
  suffices H : ∀ (bs : List Nat) (st : List Nat × Nat × Nat) (n : Nat), st.2.2 < 6 → st.2.1 < 65536 → st.1.length ≤ n → (bs.foldl b2aStep st).2.2 < 6 ∧ (bs.foldl b2aStep st).2.1 < 65536 ∧ (bs.foldl b2aStep st).1.length ≤ 3 * bs.length + n by
    simpa [b2aFold] using H bs ([], 0, 0) 0 (by simp) (by simp) (by simp)
  intro bs
  induction bs with
  | nil => intro st n h1 h2 h3; simpa using ⟨h1, h2, h3⟩
  | cons b bs ih =>
    intro st n h1 h2 h3
    have e := em_lt ((st.2.1 * 256 + b) % 65536) 3 (st.2.2 + 8) (by omega)
    have := ih (b2aStep st b) (n + 3) (by exact e.1) (by simp only [b2aStep]; omega) (by simp only [b2aStep, List.length_append]; have := e.2; omega)
    rw [List.foldl_cons]
    exact ⟨this.1, this.2.1, by have := this.2.2; simp only [List.length_cons]; omega⟩
theorem b64_lt (i : Nat) : b64 i < 256 := UInt8.toNat_lt _
theorem em_all (lc : Nat) : ∀ (f lb : Nat), ∀ n ∈ (em lc f lb).1, n < 256
  | 0, lb, n, h => by simp [em] at h
  | f + 1, lb, n, h => by
    rw [em] at h
    split at h
    · rcases List.mem_cons.mp h with rfl | h
      · exact b64_lt _
      · exact em_all lc f _ n h
    · cases h
theorem b2aFold_all (bs : List Nat) : ∀ n ∈ (b2aFold bs).1, n < 256 := by
  suffices H : ∀ (bs : List Nat) (st : List Nat × Nat × Nat), (∀ n ∈ st.1, n < 256) → ∀ n ∈ (bs.foldl b2aStep st).1, n < 256 from H bs _ (by simp)
  intro bs
  induction bs with
  | nil => intro st h; exact h
  | cons b bs ih =>
    intro st h
    rw [List.foldl_cons]
    refine ih _ fun n hn => ?_
    rcases List.mem_append.mp hn with hn | hn
    · exact h n hn
    · exact em_all _ _ _ n hn
theorem b2aEnd_all {st : List Nat × Nat × Nat} (h : ∀ n ∈ st.1, n < 256) : ∀ n ∈ b2aEnd st, n < 256 := by
  intro n hn
  unfold b2aEnd at hn
  split at hn
  · rcases List.mem_append.mp hn with hn | hn
    · exact h n hn
    · simp at hn; rcases hn with rfl | rfl
      · exact b64_lt _
      · decide
  · split at hn
    · rcases List.mem_append.mp hn with hn | hn
      · exact h n hn
      · simp at hn; rcases hn with rfl | rfl
        · exact b64_lt _
        · decide
    · exact h n hn

-- NbPA
/-- the octets of figures, four by four -/
noncomputable def oc : List Nat → List Nat
  | a :: b :: c :: d :: r => (a * 4 + b / 16) :: (b % 16 * 16 + c / 4) :: (c % 4 * 64 + d) :: oc r
  | [a, b, c] => [a * 4 + b / 16, b % 16 * 16 + c / 4]
  | [a, b] => [a * 4 + b / 16]
  | _ => []
/-- the signs of figures, four by four -/
noncomputable def sg (al : Nat → Nat) : List Nat → List Nat
  | a :: b :: c :: d :: r => al a :: al b :: al c :: al d :: sg al r
  | [a, b, c] => [al a, al b, al (c / 4 * 4), 61]
  | [a, b] => [al a, al (b / 16 * 16), 61, 61]
  | _ => []
noncomputable def numF (fs : List Nat) : Nat := fs.foldl (fun a f => a * 64 + f) 0
noncomputable def octF (fs : List Nat) : List Nat :=
  (List.range (fs.length * 6 / 8)).map fun k => numF fs / 2 ^ (fs.length * 6 - fs.length * 6 / 8 * 8) / 256 ^ (fs.length * 6 / 8 - 1 - k) % 256
noncomputable def sgH (al : Nat → Nat) (fs : List Nat) : List Nat :=
  fs.dropLast.map al ++ (if fs.length * 6 % 8 < 6 then [al (fs.getLastD 0 / 2 ^ (fs.length * 6 % 8) * 2 ^ (fs.length * 6 % 8))] else [])
noncomputable def sgF (al : Nat → Nat) (fs : List Nat) : List Nat := sgH al fs ++ List.replicate ((4 - (sgH al fs).length % 4) % 4) 61

theorem fold64 (r : List Nat) : ∀ x, r.foldl (fun a f => a * 64 + f) x = x * 64 ^ r.length + numF r := by
  induction r with
  | nil => intro x; simp [numF]
  | cons f r ih =>
    intro x
    have e : numF (f :: r) = f * 64 ^ r.length + numF r := by
      show List.foldl _ _ _ = _
      rw [List.foldl_cons, ih]; simp
    rw [List.foldl_cons, ih, e, List.length_cons, Nat.pow_succ, Nat.add_mul, Nat.mul_assoc, Nat.mul_comm 64, Nat.add_assoc]
theorem numF_lt {r : List Nat} (h : ∀ f ∈ r, f < 64) : numF r < 64 ^ r.length := by
  suffices H : ∀ (r : List Nat) (x : Nat), (∀ f ∈ r, f < 64) → r.foldl (fun a f => a * 64 + f) x < (x + 1) * 64 ^ r.length by simpa [numF] using H r 0 h
  intro r
  induction r with
  | nil => intro x _; simp
  | cons f r ih =>
    intro x h
    rw [List.foldl_cons]
    refine Nat.lt_of_lt_of_le (ih _ fun g hg => h g (.tail _ hg)) ?_
    rw [List.length_cons, Nat.pow_succ, Nat.mul_comm (64 ^ r.length), ← Nat.mul_assoc]
    exact Nat.mul_le_mul_right _ (by have := h f (.head _); omega)
theorem pow64 (n : Nat) : 64 ^ n = 2 ^ (6 * n) := by rw [show 64 = 2 ^ 6 from rfl, ← Nat.pow_mul]
theorem pow256 (n : Nat) : 256 ^ n = 2 ^ (8 * n) := by rw [show 256 = 2 ^ 8 from rfl, ← Nat.pow_mul]
theorem octF_four {a b c d : Nat} {r : List Nat} (ha : a < 64) (hb : b < 64) (hc : c < 64) (hd : d < 64) (hr : ∀ f ∈ r, f < 64) :
    octF (a :: b :: c :: d :: r) = (a * 4 + b / 16) :: (b % 16 * 16 + c / 4) :: (c % 4 * 64 + d) :: octF r := by
  have hn : numF (a :: b :: c :: d :: r) = (((a * 64 + b) * 64 + c) * 64 + d) * 64 ^ r.length + numF r := by
    rw [numF]; simp only [List.foldl_cons]; rw [fold64]; simp
  have hlen : (a :: b :: c :: d :: r).length = r.length + 4 := by simp
  unfold octF
  rw [hlen, hn]
  have hsz : (r.length + 4) * 6 / 8 = r.length * 6 / 8 + 3 := by omega
  have hsh : (r.length + 4) * 6 - (r.length * 6 / 8 + 3) * 8 = r.length * 6 - r.length * 6 / 8 * 8 := by omega
  rw [hsz, hsh]
  have hlt := numF_lt hr
  generalize hN4 : (((a * 64 + b) * 64 + c) * 64 + d) = N4
  generalize hsze : r.length * 6 / 8 = z
  generalize hse : r.length * 6 - z * 8 = sh
  have hsum : 6 * r.length = 8 * z + sh := by omega
  have e64 : 64 ^ r.length = 256 ^ z * 2 ^ sh := by rw [pow64, pow256, hsum, Nat.pow_add]
  rw [e64] at hlt ⊢
  have hdiv : (N4 * (256 ^ z * 2 ^ sh) + numF r) / 2 ^ sh = N4 * 256 ^ z + numF r / 2 ^ sh := by
    rw [← Nat.mul_assoc, Nat.add_comm, Nat.add_mul_div_right _ _ (Nat.two_pow_pos _), Nat.add_comm]
  have hlt2 : numF r / 2 ^ sh < 256 ^ z := by
    rw [Nat.div_lt_iff_lt_mul (Nat.two_pow_pos _)]; exact hlt
  rw [hdiv]
  generalize numF r / 2 ^ sh = M at *
  have hp : 0 < 256 ^ z := Nat.pow_pos (by decide)
  have htop : ∀ j, (N4 * 256 ^ z + M) / 256 ^ (z + j) = N4 / 256 ^ j := by
    intro j
    rw [Nat.pow_add, ← Nat.div_div_eq_div_mul, Nat.add_comm, Nat.add_mul_div_right _ _ hp, Nat.div_eq_of_lt hlt2, Nat.zero_add]
  have hlow : ∀ j, j < z → (N4 * 256 ^ z + M) / 256 ^ j % 256 = M / 256 ^ j % 256 := by
    intro j hj
    have e : N4 * 256 ^ z = 256 ^ j * (256 * (N4 * 256 ^ (z - j - 1))) := by
      have : 256 ^ z = 256 ^ j * (256 * 256 ^ (z - j - 1)) := by
        rw [← Nat.pow_succ', ← Nat.pow_add]; congr 1; omega
      rw [this]
      simp only [Nat.mul_comm, Nat.mul_left_comm, Nat.mul_assoc]
    rw [e, Nat.mul_add_div (Nat.pow_pos (by decide)), Nat.mul_add_mod]
  have hrange : List.range (z + 3) = 0 :: 1 :: 2 :: (List.range z).map (· + 3) := by
    rw [List.range_succ_eq_map, List.range_succ_eq_map, List.range_succ_eq_map]
    simp only [List.map_cons, List.map_map]
    congr 3
  rw [hrange]
  simp only [List.map_cons, List.map_map]
  have e0 : z + 3 - 1 - 0 = z + 2 := by omega
  have e1 : z + 3 - 1 - 1 = z + 1 := by omega
  have e2 : z + 3 - 1 - 2 = z + 0 := by omega
  rw [e0, e1, e2, htop, htop, htop]
  congr 1
  · subst hN4; omega
  congr 1
  · subst hN4; omega
  congr 1
  · subst hN4; omega
  · apply List.map_congr_left
    intro k hk
    have hk' : k < z := List.mem_range.mp hk
    show (N4 * 256 ^ z + M) / 256 ^ (z + 3 - 1 - (k + 3)) % 256 = _
    rw [show z + 3 - 1 - (k + 3) = z - 1 - k by omega]
    exact hlow _ (by omega)
theorem octF_eq : ∀ (fs : List Nat), (∀ f ∈ fs, f < 64) → octF fs = oc fs
  | [], _ => rfl
  | [a], _ => by simp [octF, oc]
  | [a, b], h => by
    have ha := h a (by simp); have hb := h b (by simp)
    simp [octF, oc, numF, List.range_succ]; omega
  | [a, b, c], h => by
    have ha := h a (by simp); have hb := h b (by simp); have hc := h c (by simp)
    simp [octF, oc, numF, List.range_succ]; omega
  | a :: b :: c :: d :: r, h => by
    rw [octF_four (h a (by simp)) (h b (by simp)) (h c (by simp)) (h d (by simp)) (fun f hf => h f (by simp [hf])), octF_eq r (fun f hf => h f (by simp [hf])), oc]
theorem sgH_four (al : Nat → Nat) (a b c d e : Nat) (r : List Nat) : sgH al (a :: b :: c :: d :: e :: r) = al a :: al b :: al c :: al d :: sgH al (e :: r) := by
  unfold sgH
  have h1 : (a :: b :: c :: d :: e :: r).length * 6 % 8 = (e :: r).length * 6 % 8 := by simp only [List.length_cons]; omega
  rw [h1]
  simp [List.getLastD_cons]
theorem sgF_eq (al : Nat → Nat) : ∀ (fs : List Nat), fs ≠ [] → sgF al fs = sg al fs
  | [], h => absurd rfl h
  | [a], _ => by simp [sgF, sgH, sg]
  | [a, b], _ => by simp [sgF, sgH, sg, List.replicate]
  | [a, b, c], _ => by simp [sgF, sgH, sg, List.replicate]
  | [a, b, c, d], _ => by simp [sgF, sgH, sg]
  | a :: b :: c :: d :: e :: r, _ => by
    have ih := sgF_eq al (e :: r) (by simp)
    rw [sg, ← ih]
    unfold sgF
    rw [sgH_four]
    have : ((al a :: al b :: al c :: al d :: sgH al (e :: r)).length) % 4 = (sgH al (e :: r)).length % 4 := by simp only [List.length_cons]; omega
    rw [this]; rfl
theorem em1 (lc lb : Nat) (h : 6 ≤ lb) (h2 : lb < 12) : em lc 3 lb = ([b64 (lc / 2 ^ (lb - 6) % 64)], lb - 6) := by
  rw [em, if_pos h, em_low _ _ _ (by omega)]
theorem em2 (lc lb : Nat) (h : 12 ≤ lb) (h2 : lb < 18) : em lc 3 lb = ([b64 (lc / 2 ^ (lb - 6) % 64), b64 (lc / 2 ^ (lb - 12) % 64)], lb - 12) := by
  rw [em, if_pos (by omega), em, if_pos (by omega), em_low _ _ _ (by omega)]
  simp only [Nat.sub_sub]
theorem st0 (out : List Nat) (lc b : Nat) (hb : b < 256) : b2aStep (out, lc, 0) b = (out ++ [b64 (b / 4)], (lc * 256 + b) % 65536, 2) := by
  unfold b2aStep
  dsimp only
  rw [em1 _ _ (by decide) (by decide)]
  simp only [show (0 + 8 - 6 : Nat) = 2 from rfl]
  rw [show (lc * 256 + b) % 65536 / 2 ^ 2 % 64 = b / 4 by omega]
theorem st2 (out : List Nat) (lc b : Nat) (hb : b < 256) : b2aStep (out, lc, 2) b = (out ++ [b64 (lc % 4 * 16 + b / 16)], (lc * 256 + b) % 65536, 4) := by
  unfold b2aStep
  dsimp only
  rw [em1 _ _ (by decide) (by decide)]
  simp only [show (2 + 8 - 6 : Nat) = 4 from rfl]
  rw [show (lc * 256 + b) % 65536 / 2 ^ 4 % 64 = lc % 4 * 16 + b / 16 by omega]
theorem st4 (out : List Nat) (lc b : Nat) (hb : b < 256) : b2aStep (out, lc, 4) b = (out ++ [b64 (lc % 16 * 4 + b / 64), b64 (b % 64)], (lc * 256 + b) % 65536, 0) := by
  unfold b2aStep
  dsimp only
  rw [em2 _ _ (by decide) (by decide)]
  simp only [show (4 + 8 - 6 : Nat) = 6 from rfl, show (4 + 8 - 12 : Nat) = 0 from rfl]
  rw [show (lc * 256 + b) % 65536 / 2 ^ 6 % 64 = lc % 16 * 4 + b / 64 by omega, show (lc * 256 + b) % 65536 / 2 ^ 0 % 64 = b % 64 by omega]
theorem b2a_oc : ∀ (fs : List Nat), (∀ f ∈ fs, f < 64) → ∀ (out : List Nat) (lc : Nat), b2aEnd ((oc fs).foldl b2aStep (out, lc, 0)) = out ++ sg b64 fs
  | [], _, out, lc => by simp [oc, sg, b2aEnd]
  | [a], _, out, lc => by simp [oc, sg, b2aEnd]
  | [a, b], h, out, lc => by
    have ha := h a (by simp); have hb := h b (by simp)
    rw [oc, List.foldl_cons, List.foldl_nil, st0 _ _ _ (by omega), b2aEnd, if_pos rfl]
    simp only [sg]
    rw [show (a * 4 + b / 16) / 4 = a by omega, show (lc * 256 + (a * 4 + b / 16)) % 65536 % 4 * 16 = b / 16 * 16 by omega]
    simp
  | [a, b, c], h, out, lc => by
    have ha := h a (by simp); have hb := h b (by simp); have hc := h c (by simp)
    rw [oc, List.foldl_cons, List.foldl_cons, List.foldl_nil, st0 _ _ _ (by omega), st2 _ _ _ (by omega), b2aEnd, if_neg (by simp), if_pos rfl]
    simp only [sg]
    rw [show (a * 4 + b / 16) / 4 = a by omega, show (lc * 256 + (a * 4 + b / 16)) % 65536 % 4 * 16 + (b % 16 * 16 + c / 4) / 16 = b by omega,
      show ((lc * 256 + (a * 4 + b / 16)) % 65536 * 256 + (b % 16 * 16 + c / 4)) % 65536 % 16 * 4 = c / 4 * 4 by omega]
    simp
  | a :: b :: c :: d :: r, h, out, lc => by
    have ha := h a (by simp); have hb := h b (by simp); have hc := h c (by simp); have hd := h d (by simp)
    rw [oc, List.foldl_cons, List.foldl_cons, List.foldl_cons, st0 _ _ _ (by omega), st2 _ _ _ (by omega), st4 _ _ _ (by omega), b2a_oc r (fun f hf => h f (by simp [hf]))]
    simp only [sg]
    rw [show (a * 4 + b / 16) / 4 = a by omega, show (lc * 256 + (a * 4 + b / 16)) % 65536 % 4 * 16 + (b % 16 * 16 + c / 4) / 16 = b by omega,
      show ((lc * 256 + (a * 4 + b / 16)) % 65536 * 256 + (b % 16 * 16 + c / 4)) % 65536 % 16 * 4 + (c % 4 * 64 + d) / 64 = c by omega,
      show (c % 4 * 64 + d) % 64 = d by omega]
    simp
theorem sg_map (g al : Nat → Nat) (h61 : g 61 = 61) : ∀ fs, (sg al fs).map g = sg (fun f => g (al f)) fs
  | [] => rfl
  | [a] => rfl
  | [a, b] => by simp [sg, h61]
  | [a, b, c] => by simp [sg, h61]
  | a :: b :: c :: d :: r => by simp [sg, sg_map g al h61 r]

-- NbPB
/-- the parts between line ends; cr: a CR stands before -/
noncomputable def prt (cur : List Nat) (cr : Bool) : List Nat → List (List Nat)
  | [] => [cur]
  | c :: r => if c = 10 ∧ cr = true then prt cur false r else if c = 13 then cur :: prt [] true r else if c = 10 then cur :: prt [] false r else prt (cur ++ [c]) false r
/-- what splitlines gives -/
noncomputable def spl (cur : List Nat) (cr : Bool) : List Nat → List (List Nat)
  | [] => if cur = [] then [] else [cur]
  | c :: r => if c = 10 ∧ cr = true then spl cur false r else if c = 13 then cur :: spl [] true r else if c = 10 then cur :: spl [] false r else spl (cur ++ [c]) false r
theorem prt_ne (l : List Nat) : ∀ cur cr, prt cur cr l ≠ [] := by
  induction l with
  | nil => intro cur cr; simp [prt]
  | cons c r ih => intro cur cr; rw [prt]; split; exact ih _ _; split; simp; split; simp; exact ih _ _
theorem spl_prt (l : List Nat) : ∀ cur cr, spl cur cr l = if (prt cur cr l).getLast? = some [] then (prt cur cr l).dropLast else prt cur cr l := by
  have cn : ∀ (x : List Nat) (p : List (List Nat)), p ≠ [] → (x :: if p.getLast? = some [] then p.dropLast else p) = if (x :: p).getLast? = some [] then (x :: p).dropLast else x :: p := by
    intro x p hp
    cases p with
    | nil => exact absurd rfl hp
    | cons y p => rw [List.getLast?_cons_cons]; split <;> rfl
  induction l with
  | nil => intro cur cr; simp [prt, spl]
  | cons c r ih =>
    intro cur cr
    rw [prt, spl]
    split
    · exact ih _ _
    split
    · rw [ih, cn _ _ (prt_ne _ _ _)]
    split
    · rw [ih, cn _ _ (prt_ne _ _ _)]
    · exact ih _ _
theorem prt_lines (l : List Nat) : ∀ (cur : List Nat) (acc : List (List Nat)) (b : List Nat), (l.foldl lnStep (cur :: acc, b)).1 = (prt cur (decide (b = [13])) l).reverse ++ acc := by
  induction l with
  | nil => intro cur acc b; simp [prt]
  | cons c r ih =>
    intro cur acc b
    rw [List.foldl_cons, prt]
    by_cases h1 : c = 10 ∧ b = [13]
    · rw [if_pos (by simpa using h1)]
      obtain ⟨rfl, rfl⟩ := h1
      rw [show lnStep (cur :: acc, [13]) 10 = (cur :: acc, [10]) by simp [lnStep], ih]; simp
    rw [if_neg (by simpa using h1)]
    by_cases h2 : c = 13
    · rw [if_pos h2, h2, show lnStep (cur :: acc, b) 13 = ([] :: cur :: acc, [13]) by simp [lnStep], ih]; simp
    rw [if_neg h2]
    by_cases h3 : c = 10
    · rw [if_pos h3, h3, show lnStep (cur :: acc, b) 10 = ([] :: cur :: acc, [10]) by
        have : b ≠ [13] := fun e => h1 ⟨h3, e⟩
        simp [lnStep, this], ih]; simp
    · rw [if_neg h3, show lnStep (cur :: acc, b) c = ((cur ++ [c]) :: acc, [c]) by simp [lnStep, h2, h3], ih]; simp [h2]
theorem lnFold_prt (ss : List Nat) : (lnFold ss).1.reverse = prt [] false ss := by
  rw [lnFold, prt_lines]; simp
theorem prt_run (xs : List Nat) : ∀ (cur r : List Nat) (cr : Bool), (∀ x ∈ xs, x ≠ 13 ∧ x ≠ 10) → prt cur cr (xs ++ r) = prt (cur ++ xs) (if xs = [] then cr else false) r := by
  induction xs with
  | nil => intro cur r cr _; simp
  | cons x xs ih =>
    intro cur r cr h
    have hx := h x (.head _)
    rw [List.cons_append, prt]
    simp only [hx.1, hx.2, if_false, false_and]
    rw [ih _ _ _ (fun y hy => h y (.tail _ hy))]
    simp
theorem prt_flat {f : Nat → List Nat} (h13 : f 13 = [13]) (h10 : f 10 = [10]) (l : List Nat) : ∀ (cur : List Nat) (cr : Bool), (∀ c ∈ l, c ≠ 13 → c ≠ 10 → f c ≠ [] ∧ ∀ x ∈ f c, x ≠ 13 ∧ x ≠ 10) → prt (cur.flatMap f) cr (l.flatMap f) = (prt cur cr l).map (·.flatMap f) := by
  induction l with
  | nil => intro cur cr _; simp [prt]
  | cons c r ih =>
    intro cur cr hf
    replace ih := fun cur cr => ih cur cr (fun c hc => hf c (.tail _ hc))
    have ih0 := ih []
    simp only [List.flatMap_nil] at ih0
    rw [List.flatMap_cons]
    by_cases h1 : c = 13
    · rw [h1, h13]
      show prt _ _ (13 :: _) = _
      simp only [prt]; simp [ih0]
    by_cases h2 : c = 10
    · rw [h2, h10]
      show prt _ _ (10 :: _) = _
      simp only [prt]
      cases cr <;> simp [ih0, ih]
    · obtain ⟨hn, hx⟩ := hf c (.head _) h1 h2
      rw [prt_run _ _ _ _ hx, if_neg hn]
      have := ih (cur ++ [c]) false
      rw [List.flatMap_append] at this
      rw [prt]; simp only [h1, h2, if_false, false_and]
      rw [← this]; simp
theorem prt_cr (l cur : List Nat) (h : l.head? ≠ some 10) : prt cur true l = prt cur false l := by
  cases l with
  | nil => rfl
  | cons c r =>
    have : c ≠ 10 := fun e => h (by rw [e]; rfl)
    simp only [prt, this, false_and, if_false]
theorem spl_cr (l cur : List Nat) (h : l.head? ≠ some 10) : spl cur true l = spl cur false l := by
  cases l with
  | nil => rfl
  | cons c r =>
    have : c ≠ 10 := fun e => h (by rw [e]; rfl)
    simp only [spl, this, false_and, if_false]
/-- texts with a mark between them -/
noncomputable def jn (e : List Nat) : List (List Nat) → List Nat
  | [] => []
  | [x] => x
  | x :: y :: r => x ++ e ++ jn e (y :: r)
theorem jn_cons (e x : List Nat) {r : List (List Nat)} (h : r ≠ []) : jn e (x :: r) = x ++ e ++ jn e r := by
  cases r with
  | nil => exact absurd rfl h
  | cons y r => rfl
theorem jn_app (e : List Nat) {a b : List (List Nat)} (ha : a ≠ []) (hb : b ≠ []) : jn e (a ++ b) = jn e a ++ e ++ jn e b := by
  induction a with
  | nil => exact absurd rfl ha
  | cons x a ih =>
    cases a with
    | nil => rw [List.singleton_append, jn_cons _ _ hb]; rfl
    | cons y a =>
      rw [List.cons_append, jn_cons _ _ (by simp), ih (by simp), jn_cons e x (r := y :: a) (by simp)]
      simp
theorem jn_head {e : List Nat} (he : e = [13]) (r : List (List Nat)) (h : ∀ x ∈ r, ∀ c ∈ x, c ≠ 13 ∧ c ≠ 10) : (jn e r).head? ≠ some 10 := by
  cases r with
  | nil => simp [jn]
  | cons x r =>
    cases x with
    | nil => cases r with
      | nil => simp [jn]
      | cons y r => rw [jn, he]; simp
    | cons a x =>
      have := (h (a :: x) (by simp) a (by simp)).2
      cases r with
      | nil => simpa [jn] using this
      | cons y r => simpa [jn] using this
theorem prt_jn {e : List Nat} (he : e = [10] ∨ e = [13, 10] ∨ e = [13]) : ∀ (rows : List (List Nat)) (cur : List Nat), rows ≠ [] → (∀ r ∈ rows, ∀ x ∈ r, x ≠ 13 ∧ x ≠ 10) → prt cur false (jn e rows) = (cur ++ rows.headD []) :: rows.tail
  | [], _, h, _ => absurd rfl h
  | [x], cur, _, h => by
    have := prt_run x cur [] false (h x (by simp))
    rw [List.append_nil] at this
    rw [jn, this, prt]; rfl
  | x :: y :: r, cur, _, h => by
    have ih := prt_jn he (y :: r) [] (by simp) (fun z hz => h z (.tail _ hz))
    have hh := fun he => jn_head (e := e) he (y :: r) (fun z hz => h z (.tail _ hz))
    rw [jn, List.append_assoc, prt_run x cur _ _ (h x (by simp))]
    rw [show (if x = [] then false else false) = false by split <;> rfl]
    rcases he with rfl | rfl | rfl
    · show prt _ _ (10 :: jn _ _) = _
      simp [prt]; exact ih
    · show prt _ _ (13 :: 10 :: jn _ _) = _
      simp [prt]; exact ih
    · show prt _ _ (13 :: jn _ _) = _
      rw [prt]; simp only [false_and, if_false, if_true, and_false, Bool.false_eq_true]
      rw [prt_cr _ _ (hh rfl), ih]; simp
/-- the library's lines -/
theorem lines_eq (x : Str) : Txt.lines x = (Builtin.Str.lineSpans x).map fun (p : Nat × Nat × Nat) => Builtin.Str.strSub x p.1 p.2.1 := by
  have e : linesOf x = (Builtin.Str.lineSpans x).map fun (p : Nat × Nat × Nat) => Builtin.Str.strSub x p.1 p.2.1 := by
    unfold linesOf lineCuts
    rw [List.map_map]
    apply List.map_congr_left
    intro ⟨i, j, k⟩ _
    rfl
  unfold Txt.lines
  split
  · rename_i h
    rw [← e]
    unfold linesOf
    rw [beq_iff_eq.mp h]
    simp [strSub_whole]
  · exact e
theorem sub_tx (l : List Nat) (i j : Nat) : Builtin.Str.strSub (tx l) i j = tx ((l.drop i).take (j - i)) := by
  rw [strSub_mk, tx_cps]; rfl
open StrLaws in
theorem lines_run (T : List Nat) (hT : ∀ c ∈ T, c = 13 ∨ c = 10 ∨ Unicode.isLineBreak c = false) : ∀ (r pre : List Nat) (L : Array (Nat × Nat × Nat)) (start : Nat), T = pre ++ r →
    (start ≤ pre.length → (lsEnd (tx T) (Id.run (forIn (m := Id) (List.range' pre.length r.length) ((L, start) : LsSt) (lsBody (tx T))))).map (fun (p : Nat × Nat × Nat) => Builtin.Str.strSub (tx T) p.1 p.2.1) =
      L.toList.map (fun (p : Nat × Nat × Nat) => Builtin.Str.strSub (tx T) p.1 p.2.1) ++ (spl (pre.drop start) false r).map tx) ∧
    (start = pre.length + 1 → ∀ r', r = 10 :: r' → (lsEnd (tx T) (Id.run (forIn (m := Id) (List.range' pre.length r.length) ((L, start) : LsSt) (lsBody (tx T))))).map (fun (p : Nat × Nat × Nat) => Builtin.Str.strSub (tx T) p.1 p.2.1) =
      L.toList.map (fun (p : Nat × Nat × Nat) => Builtin.Str.strSub (tx T) p.1 p.2.1) ++ (spl [] false r').map tx)
  | [], pre, L, start, e => by
    refine ⟨fun hs => ?_, fun _ r' h => by cases h⟩
    subst e
    simp only [List.length_nil, List.range'_zero, List.forIn_nil]
    show (lsEnd _ (L, start)).map _ = _
    unfold lsEnd
    rw [spl, tx_len]
    dsimp only
    rw [List.append_nil]
    by_cases h : start < pre.length
    · rw [if_pos h, if_neg (by intro e; have := List.length_eq_zero_iff.mpr e; simp at this; omega)]
      simp [sub_tx]
      rw [List.take_of_length_le (by simp)]
    · rw [if_neg h, if_pos (List.drop_of_length_le (by omega))]
      simp
  | c :: r, pre, L, start, e => by
    have hget : (tx T).cps.getD pre.length 0 = c := by
      subst e; simp [tx]
    have hget2 : (tx T).cps[pre.length + 1]? = r.head? := by
      have : (tx T).cps[pre.length + 1]? = T[pre.length + 1]? := by simp [tx]
      rw [this, e, List.getElem?_append_right (by omega), show pre.length + 1 - pre.length = 1 by omega]
      cases r <;> rfl
    have hstep : ∀ st, Id.run (forIn (m := Id) (List.range' pre.length (c :: r).length) (st : LsSt) (lsBody (tx T))) =
        Id.run (forIn (m := Id) (List.range' (pre ++ [c]).length r.length) ((if (decide (st.2 ≤ pre.length) && Unicode.isLineBreak c) = true then (st.1.push (st.2, pre.length, lsNext (tx T) pre.length), lsNext (tx T) pre.length) else (st.1, st.2)) : LsSt) (lsBody (tx T))) := by
      intro st
      rw [List.length_cons, List.range'_succ, List.forIn_cons]
      unfold lsBody
      rw [hget]
      by_cases hc : (decide (st.2 ≤ pre.length) && Unicode.isLineBreak c) = true
      · simp only [hc, if_true, List.length_append, List.length_cons, List.length_nil]; rfl
      · simp only [hc, if_false, Bool.false_eq_true, List.length_append, List.length_cons, List.length_nil]; rfl
    have e' : T = (pre ++ [c]) ++ r := by rw [e]; simp
    have hnext : lsNext (tx T) pre.length = if c = 13 ∧ r.head? = some 10 then pre.length + 2 else pre.length + 1 := by
      unfold lsNext
      rw [hget, hget2]
      simp only [Bool.and_eq_true, beq_iff_eq]
    have hcT := hT c (by rw [e]; simp)
    have hsub : ∀ start, start ≤ pre.length → Builtin.Str.strSub (tx T) start pre.length = tx (pre.drop start) := by
      intro start hs
      rw [sub_tx, e, List.drop_append_of_le_length hs, List.take_append_of_le_length (by simp), List.take_of_length_le (by simp)]
    refine ⟨fun hs => ?_, fun hs r' hr => ?_⟩
    · rw [hstep]
      dsimp only
      by_cases hbr : c = 13 ∨ c = 10
      · have hlb : Unicode.isLineBreak c = true := by rcases hbr with rfl | rfl <;> decide +kernel
        rw [hlb, Bool.and_true, if_pos (decide_eq_true hs), hnext]
        by_cases hcr : c = 13 ∧ r.head? = some 10
        · rw [if_pos hcr]
          obtain ⟨rfl, hr⟩ := hcr
          obtain ⟨r', rfl⟩ : ∃ r', r = 10 :: r' := by cases r with | nil => cases hr | cons x r => cases hr; exact ⟨r, rfl⟩
          rw [(lines_run T hT (10 :: r') (pre ++ [13]) _ _ e').2 (by simp) r' rfl]
          simp [spl, hsub start hs]
        · rw [if_neg hcr, (lines_run T hT r (pre ++ [c]) _ _ e').1 (by simp)]
          have hd : (pre ++ [c]).drop (pre.length + 1) = [] := List.drop_of_length_le (by simp)
          rw [hd]
          rcases hbr with rfl | rfl
          · have : r.head? ≠ some 10 := fun h => hcr ⟨rfl, h⟩
            simp [spl, hsub start hs, spl_cr _ _ this]
          · simp [spl, hsub start hs]
      · have h13 : c ≠ 13 := fun h => hbr (.inl h)
        have h10 : c ≠ 10 := fun h => hbr (.inr h)
        have hlb : Unicode.isLineBreak c = false := by rcases hcT with h | h | h; exact absurd h h13; exact absurd h h10; exact h
        rw [hlb, Bool.and_false, if_neg (by decide), (lines_run T hT r (pre ++ [c]) _ _ e').1 (by simp; omega), spl]
        simp only [h13, h10, if_false, false_and]
        rw [List.drop_append_of_le_length hs]
    · rw [hstep]
      dsimp only
      cases hr
      have : ¬ start ≤ pre.length := by omega
      rw [if_neg (by simp [this]), (lines_run T hT r (pre ++ [10]) _ _ e').1 (by simp; omega)]
      rw [List.drop_of_length_le (by simp; omega)]
theorem lines_tx (T : List Nat) (hT : ∀ c ∈ T, c = 13 ∨ c = 10 ∨ Unicode.isLineBreak c = false) : Txt.lines (tx T) = (spl [] false T).map tx := by
  rw [lines_eq, StrLaws.ls_eq, tx_len]
  have := (lines_run T hT T [] #[] 0 rfl).1 (by simp)
  simpa using this

-- NbPC
/-- where body_encode ends a row -/
noncomputable def cutAt (R : Nat) (tl : List Nat) (st : Nat) : Nat := if tl[st + R - 3]? = some 61 then st + R - 3 else if tl[st + R - 2]? = some 61 then st + R - 2 else st + R - 1
noncomputable def beL (R : Nat) (tl : List Nat) : Nat → Nat → List (List Nat) × Nat
  | 0, st => ([], st)
  | n + 1, st => if st + R + 1 ≤ tl.length then (((tl.drop st).take (cutAt R tl st - st) ++ [61]) :: (beL R tl n (cutAt R tl st)).1, (beL R tl n (cutAt R tl st)).2) else ([], st)
noncomputable def beLast (e : List Nat) (R : Nat) (tl : List Nat) (st : Nat) : List Nat :=
  match tl.getLast? with
  | some c => if c = 32 ∨ c = 9 then (tl.drop st).dropLast ++ (if tl.length + 2 ≤ st + R then quo c else if tl.length + 1 = st + R then [c] ++ ([61] ++ e) else [61] ++ e ++ quo c) else tl.drop st
  | none => tl.drop st
noncomputable def beItems (e : List Nat) (R : Nat) (tl : List Nat) : List (List Nat) := (beL R tl tl.length 0).1 ++ [beLast e R tl (beL R tl tl.length 0).2]
theorem beL_len (R : Nat) (tl : List Nat) : ∀ (n st : Nat), (beL R tl n st).1.length ≤ n ∧ ∀ x ∈ (beL R tl n st).1, x.length ≤ tl.length + 1
  | 0, st => by simp [beL]
  | n + 1, st => by
    rw [beL]
    split
    · have := beL_len R tl n (cutAt R tl st)
      refine ⟨by simp; exact this.1, fun x hx => ?_⟩
      rcases List.mem_cons.mp hx with rfl | hx
      · simp; omega
      · exact this.2 x hx
    · simp
theorem beLast_len {e : List Nat} (he : e.length ≤ 2) (R : Nat) (tl : List Nat) (st : Nat) : (beLast e R tl st).length ≤ tl.length + 10 := by
  unfold beLast
  split
  · split
    · rw [List.length_append, List.length_dropLast, List.length_drop]
      split
      · simp [quo]; omega
      · split <;> simp [quo] <;> omega
    · rw [List.length_drop]; omega
  · rw [List.length_drop]; omega
theorem beItems_len {e : List Nat} (he : e.length ≤ 2) (R : Nat) (tl : List Nat) : (beItems e R tl).length ≤ tl.length + 1 ∧ ∀ x ∈ beItems e R tl, x.length ≤ tl.length + 10 := by
  have h1 := beL_len R tl tl.length 0
  unfold beItems
  refine ⟨by rw [List.length_append]; simp; exact h1.1, fun x hx => ?_⟩
  rcases List.mem_append.mp hx with hx | hx
  · have := h1.2 x hx; omega
  · rw [List.mem_singleton.mp hx]; exact beLast_len he R tl _
theorem items_len {e : List Nat} (he : e.length ≤ 2) (R N : Nat) (ls : List (List Nat)) (h : (ls.map (·.length)).sum + ls.length ≤ N) : (ls.flatMap (beItems e R)).length ≤ N ∧ ∀ x ∈ ls.flatMap (beItems e R), x.length ≤ N + 10 := by
  induction ls generalizing N with
  | nil => simp
  | cons l ls ih =>
    simp only [List.map_cons, List.sum_cons, List.length_cons] at h
    have h1 := beItems_len he R l
    have h2 := ih (N - l.length - 1) (by omega)
    rw [List.flatMap_cons]
    refine ⟨by rw [List.length_append]; omega, fun x hx => ?_⟩
    rcases List.mem_append.mp hx with hx | hx
    · have := h1.2 x hx; omega
    · have := h2.2 x hx; omega
theorem mem_le_sum {ls : List (List Nat)} {x : List Nat} (h : x ∈ ls) : x.length ≤ (ls.map (·.length)).sum := by
  induction ls with
  | nil => cases h
  | cons l ls ih =>
    simp only [List.map_cons, List.sum_cons]
    rcases List.mem_cons.mp h with rfl | h
    · omega
    · have := ih h; omega
theorem sum_le_mul {ls : List (List Nat)} {N : Nat} (h : ∀ x ∈ ls, x.length ≤ N) : (ls.map (·.length)).sum ≤ ls.length * N := by
  induction ls with
  | nil => simp
  | cons l ls ih =>
    have h1 := h l (.head _)
    have h2 := ih fun x hx => h x (.tail _ hx)
    simp only [List.map_cons, List.sum_cons, List.length_cons]
    rw [Nat.add_mul]; omega
theorem row_cut {tl : List Nat} {a b : Nat} (hab : a ≤ b) (h : tl[b]? = some 61) : (tl.drop a).take (b + 1 - a) = (tl.drop a).take (b - a) ++ [61] := by
  rw [show b + 1 - a = (b - a) + 1 by omega, List.take_add_one, List.getElem?_drop, show a + (b - a) = b by omega, h]; rfl
theorem spl_weight (T : List Nat) (hT : ∀ c ∈ T, c = 13 ∨ c = 10 ∨ Unicode.isLineBreak c = false) : ((spl [] false T).map (·.length)).sum + (spl [] false T).length ≤ T.length + 1 := by
  have := StrLaws.lines_weight (tx T)
  rw [lines_tx T hT, tx_len, List.map_map, List.length_map] at this
  have e : (spl [] false T).map (Str.length ∘ tx) = (spl [] false T).map (·.length) := by apply List.map_congr_left; intro a _; exact tx_len a
  rwa [e] at this
theorem safe_lt {c : Nat} (h : safe c = true) : c < 127 := by
  unfold safe at h; simp at h; omega
theorem brk_safe {c : Nat} (h : safe c = true) : Unicode.isLineBreak c = false := by
  have key : ∀ c, c < 127 → safe c = true → Unicode.isLineBreak c = false := by decide +kernel
  exact key c (safe_lt h) h
theorem hex_get (i : Nat) : hexU.getD i 0 ∈ 0 :: hexU := by
  rw [List.getD_eq_getElem?_getD]
  cases h : hexU[i]? with
  | none => exact .head _
  | some x => exact .tail _ (List.mem_of_getElem? h)
theorem hex_ok : ∀ x ∈ 0 :: hexU, Unicode.isLineBreak x = false ∧ x ≠ 13 ∧ x ≠ 10 ∧ x ≠ 61 ∧ x ≠ 32 ∧ x ≠ 9 := by decide +kernel
theorem quo_brk (c : Nat) : ∀ x ∈ quo c, Unicode.isLineBreak x = false ∧ x ≠ 13 ∧ x ≠ 10 := by
  intro x hx
  simp only [quo, List.mem_cons, List.not_mem_nil, or_false] at hx
  rcases hx with rfl | rfl | rfl
  · decide +kernel
  · have := hex_ok _ (hex_get (c / 16)); exact ⟨this.1, this.2.1, this.2.2.1⟩
  · have := hex_ok _ (hex_get (c % 16)); exact ⟨this.1, this.2.1, this.2.2.1⟩
theorem tr_brk {ss : List Nat} (_hc : ∀ c ∈ ss, c < 256) : ∀ c ∈ ss.flatMap tr, c = 13 ∨ c = 10 ∨ Unicode.isLineBreak c = false := by
  intro x hx
  obtain ⟨c, _, hx⟩ := List.mem_flatMap.mp hx
  unfold tr at hx
  split at hx
  · rename_i h
    rw [List.mem_singleton.mp hx]
    simp only [Bool.or_eq_true, beq_iff_eq] at h
    rcases h with (h | h) | h
    · exact .inr (.inr (brk_safe h))
    · exact .inl h
    · exact .inr (.inl h)
  · exact .inr (.inr (quo_brk c x hx).1)
theorem tr_len (ss : List Nat) : (ss.flatMap tr).length ≤ 3 * ss.length := by
  induction ss with
  | nil => simp
  | cons c r ih =>
    rw [List.flatMap_cons, List.length_append, List.length_cons]
    have : (tr c).length ≤ 3 := by unfold tr; split <;> simp [quo]
    omega

-- NbPD
noncomputable abbrev fl (cs : List Nat) : List Nat := cs.flatMap piece
theorem fl_app (a b : List Nat) : fl (a ++ b) = fl a ++ fl b := List.flatMap_append ..
theorem fl_cons (c : Nat) (b : List Nat) : fl (c :: b) = piece c ++ fl b := rfl
theorem fl_pos {a : List Nat} (h : a ≠ []) : 1 ≤ (fl a).length := by
  cases a with
  | nil => exact absurd rfl h
  | cons c r => rw [fl_cons, List.length_append]; have := (piece_len c).1; omega
theorem piece_quo {c : Nat} (h : safe c = false) : piece c = quo c := by unfold piece; rw [if_neg (by rw [h]; decide)]; rfl
theorem piece_safe {c : Nat} (h : safe c = true) : piece c = [c] := by unfold piece; rw [if_pos h]
theorem safe_61 : safe 61 = false := by decide
/-- the last signs of whole pieces are no '=' -/
theorem fl_last (a : List Nat) : (∀ x, (fl a).getLast? = some x → x ≠ 61) ∧ (∀ p x y, fl a = p ++ [x, y] → x ≠ 61) := by
  rcases List.eq_nil_or_concat a with rfl | ⟨a, c, rfl⟩
  · refine ⟨fun x h => (by simp [fl] at h), fun p x y h => ?_⟩
    have := congrArg List.length h; simp [fl] at this
  · rw [List.concat_eq_append, fl_app]
    have e1 : fl [c] = piece c := by simp [fl]
    rw [e1]
    cases hs : safe c with
    | true =>
      rw [piece_safe hs]
      have hc : c ≠ 61 := fun e => by rw [e, safe_61] at hs; cases hs
      refine ⟨fun x h => ?_, fun p x y h => ?_⟩
      · rw [List.getLast?_append] at h; simp at h; rw [← h]; exact hc
      · have h' : fl a = p ++ [x] := by
          have h2 : fl a ++ [c] = (p ++ [x]) ++ [y] := by rw [h]; simp
          exact (List.append_inj' h2 rfl).1
        exact (fl_last a).1 x (by rw [h']; simp)
    | false =>
      rw [piece_quo hs]
      have h1 := hex_ok _ (hex_get (c / 16))
      have h2 := hex_ok _ (hex_get (c % 16))
      refine ⟨fun x h => ?_, fun p x y h => ?_⟩
      · rw [List.getLast?_append] at h; simp [quo] at h; rw [← h]; simpa using h2.2.2.2.1
      · have h3 : (fl a ++ [61]) ++ [hexU.getD (c / 16) 0, hexU.getD (c % 16) 0] = p ++ [x, y] := by rw [← h]; simp [quo]
        have h4 := (List.append_inj' h3 rfl).2
        cases h4
        exact h1.2.2.2.1
termination_by a.length
decreasing_by all_goals (subst_vars; simp)
theorem fl_at1 {a b : List Nat} {k : Nat} (hk : k + 1 = (fl a).length) : (fl a ++ b)[k]? ≠ some 61 := by
  rw [List.getElem?_append_left (by omega)]
  intro h
  refine (fl_last a).1 61 ?_ rfl
  rw [List.getLast?_eq_getElem?, ← h]; congr 1; omega
theorem fl_at2 {a b : List Nat} {k : Nat} (hk : k + 2 = (fl a).length) : (fl a ++ b)[k]? ≠ some 61 := by
  rw [List.getElem?_append_left (by omega)]
  intro h
  have hlt : k < (fl a).length := by omega
  have hlt2 : k + 1 < (fl a).length := by omega
  refine (fl_last a).2 ((fl a).take k) 61 ((fl a)[k + 1]) ?_ rfl
  rw [List.getElem?_eq_getElem hlt] at h
  have e := List.take_append_drop k (fl a)
  rw [List.drop_eq_getElem_cons hlt, List.drop_eq_getElem_cons hlt2, List.drop_of_length_le (by omega)] at e
  rw [Option.some.inj h] at e
  exact e.symm
theorem fl_at0 {a b : List Nat} {c : Nat} (h3 : (piece c).length = 3) : (fl a ++ (piece c ++ b))[(fl a).length]? = some 61 := by
  rw [List.getElem?_append_right (Nat.le_refl _), Nat.sub_self]
  have : safe c = false := by
    cases h : safe c with
    | false => rfl
    | true => rw [piece_safe h] at h3; simp at h3
  rw [piece_quo this]; rfl
theorem piece_13 (c : Nat) : (piece c).length = 1 ∨ (piece c).length = 3 := by unfold piece; split <;> simp
/-- the first row -/
theorem grd {R : Nat} (hR : 4 ≤ R) : ∀ (rest : List Nat), R ≤ (fl rest).length → ∃ a c b, rest = a ++ c :: b ∧ (fl a).length ≤ R - 1 ∧ R - 1 < (fl a).length + (piece c).length ∧ a ≠ [] := by
  intro rest hlen
  suffices H : ∀ (rest a : List Nat), (fl a).length ≤ R - 1 → R ≤ (fl a).length + (fl rest).length → ∃ a' c b, a ++ rest = a' ++ c :: b ∧ (fl a').length ≤ R - 1 ∧ R - 1 < (fl a').length + (piece c).length by
    obtain ⟨a, c, b, e, h1, h2⟩ := H rest [] (by simp) (by simpa using hlen)
    refine ⟨a, c, b, by simpa using e, h1, h2, fun ha => ?_⟩
    subst ha
    have := (piece_len c).2
    simp at h2; omega
  intro rest
  induction rest with
  | nil => intro a h1 h2; exact absurd h2 (by show ¬ R ≤ (fl a).length + 0; omega)
  | cons c r ih =>
    intro a h1 h2
    by_cases h : R - 1 < (fl a).length + (piece c).length
    · exact ⟨a, c, r, rfl, h1, h⟩
    · have e : fl (a ++ [c]) = fl a ++ piece c := by rw [fl_app]; simp [fl]
      obtain ⟨a', c', b, e', h3, h4⟩ := ih (a ++ [c]) (by rw [e, List.length_append]; omega) (by rw [fl_cons, List.length_append] at h2; rw [e, List.length_append]; omega)
      exact ⟨a', c', b, by rw [← e']; simp, h3, h4⟩
theorem fold_fit {R : Nat} (a : List Nat) : ∀ (dn : List (List Nat)) (cur : List Nat), cur.length + (fl a).length ≤ R - 1 → a.foldl (rwStep R) (dn, cur) = (dn, cur ++ fl a) := by
  induction a with
  | nil => intro dn cur _; simp
  | cons c a ih =>
    intro dn cur h
    rw [fl_cons, List.length_append] at h
    have e : rwStep R (dn, cur) c = (dn, cur ++ piece c) := by unfold rwStep; rw [if_neg (by dsimp only; omega)]
    rw [List.foldl_cons, e, ih _ _ (by rw [List.length_append]; omega), fl_cons]; simp
theorem fold_row {R : Nat} (hR : 4 ≤ R) {a b : List Nat} {c : Nat} (dn : List (List Nat)) (h1 : (fl a).length ≤ R - 1) (h2 : R - 1 < (fl a).length + (piece c).length) :
    (a ++ c :: b).foldl (rwStep R) (dn, []) = (c :: b).foldl (rwStep R) (dn ++ [fl a], []) := by
  have hp := (piece_len c).2
  rw [List.foldl_append, fold_fit a dn [] (by simpa using h1), List.foldl_cons, List.foldl_cons]
  have e1 : rwStep R (dn, [] ++ fl a) c = (dn ++ [fl a], piece c) := by unfold rwStep; rw [if_pos (by simpa using h2)]; simp
  have e2 : rwStep R (dn ++ [fl a], []) c = (dn ++ [fl a], piece c) := by unfold rwStep; rw [if_neg (by dsimp only [List.length_nil]; omega)]; simp
  rw [e1, e2]
theorem cut_row {R : Nat} (hR : 4 ≤ R) {pre a b : List Nat} {c : Nat} (h1 : (fl a).length ≤ R - 1) (h2 : R - 1 < (fl a).length + (piece c).length) :
    cutAt R (fl (pre ++ (a ++ c :: b))) (fl pre).length = (fl pre).length + (fl a).length := by
  have hT : fl (pre ++ (a ++ c :: b)) = fl (pre ++ a) ++ (piece c ++ fl b) := by rw [fl_app, fl_app, fl_cons, fl_app]; simp
  have hl : (fl (pre ++ a)).length = (fl pre).length + (fl a).length := by rw [fl_app, List.length_append]
  unfold cutAt
  rw [hT]
  rcases piece_13 c with hp | hp
  · rw [if_neg (fl_at2 (by omega)), if_neg (fl_at1 (by omega))]; omega
  · have h0 := @fl_at0 (pre ++ a) (fl b) c hp
    have hk : (fl a).length = R - 3 ∨ (fl a).length = R - 2 ∨ (fl a).length = R - 1 := by omega
    rcases hk with hk | hk | hk
    · rw [if_pos (by rw [← h0]; congr 1; omega)]; omega
    · rw [if_neg (fl_at1 (by omega)), if_pos (by rw [← h0]; congr 1; omega)]; omega
    · rw [if_neg (fl_at2 (by omega)), if_neg (fl_at1 (by omega))]; omega
/-- the loop of body_encode makes the rows -/
theorem loop_rows {R : Nat} (hR : 4 ≤ R) (cs : List Nat) : ∀ (n : Nat) (dn : List (List Nat)) (pre rest : List Nat), cs = pre ++ rest → (fl rest).length ≤ n → (rest ≠ [] ∨ cs = []) →
    rwFold R cs = rest.foldl (rwStep R) (dn, []) → (∀ x, dn.getLast? = some x → R + 1 ≤ x.length + (fl rest).length) →
    ∃ dn' pre' rest', beL R (fl cs) n (fl pre).length = (dn'.map (· ++ [61]), (fl pre').length) ∧ cs = pre' ++ rest' ∧ (fl rest').length ≤ R ∧ (rest' ≠ [] ∨ cs = []) ∧
      rwFold R cs = rest'.foldl (rwStep R) (dn ++ dn', []) ∧ (∀ x, (dn ++ dn').getLast? = some x → R + 1 ≤ x.length + (fl rest').length) := by
  intro n
  induction n with
  | zero =>
    intro dn pre rest e h1 h2 h3 h4
    exact ⟨[], pre, rest, rfl, e, by omega, h2, by simpa using h3, by simpa using h4⟩
  | succ n ih =>
    intro dn pre rest e h1 h2 h3 h4
    have hlen : (fl cs).length = (fl pre).length + (fl rest).length := by rw [e, fl_app, List.length_append]
    by_cases hc : (fl pre).length + R + 1 ≤ (fl cs).length
    · obtain ⟨a, c, b, rfl, g1, g2, g3⟩ := grd hR rest (by omega)
      have hcut := cut_row hR (pre := pre) (b := b) g1 g2
      rw [← e] at hcut
      have hpos := fl_pos g3
      have hlr : (fl (a ++ c :: b)).length = (fl a).length + (fl (c :: b)).length := by rw [fl_app, List.length_append]
      obtain ⟨dn', pre', rest', i1, i2, i3, i4, i5, i6⟩ := ih (dn ++ [fl a]) (pre ++ a) (c :: b) (by rw [e]; simp) (by omega) (.inl (by simp)) (by rw [h3, fold_row hR dn g1 g2]) (by
        intro x hx
        simp at hx
        subst hx
        omega)
      refine ⟨fl a :: dn', pre', rest', ?_, i2, i3, i4, by rw [i5]; simp, by intro x hx; exact i6 x (by simpa using hx)⟩
      rw [beL, if_pos hc, hcut]
      have hp : (fl (pre ++ a)).length = (fl pre).length + (fl a).length := by rw [fl_app, List.length_append]
      rw [hp] at i1
      rw [i1]
      have hrow : ((fl cs).drop (fl pre).length).take ((fl pre).length + (fl a).length - (fl pre).length) = fl a := by
        rw [e, fl_app, List.drop_left, Nat.add_sub_cancel_left, fl_app, List.take_left]
      rw [hrow]; rfl
    · refine ⟨[], pre, rest, ?_, e, by omega, h2, by simpa using h3, by simpa using h4⟩
      rw [beL, if_neg hc]; rfl
theorem jn_congr (e : List Nat) (X : List (List Nat)) {Y Z : List (List Nat)} (hY : Y ≠ []) (hZ : Z ≠ []) (h : jn e Y = jn e Z) : jn e (X ++ Y) = jn e (X ++ Z) := by
  cases X with
  | nil => exact h
  | cons x X => rw [jn_app e (by simp) hY, jn_app e (by simp) hZ, h]
theorem fl_one (c : Nat) : fl [c] = piece c := by simp [fl]
/-- one line -/
theorem line_rows {e : List Nat} {R : Nat} (hR : 4 ≤ R) (cs : List Nat) : jn e (beItems e R (fl cs)) = jn e (rowsOf R cs) := by
  obtain ⟨dn, pre, rest, i1, i2, i3, i4, i5, i6⟩ := loop_rows hR cs (fl cs).length [] [] cs rfl (Nat.le_refl _) (by cases cs <;> simp) rfl (by simp)
  rw [List.nil_append] at i5 i6
  have hL := rwFold_len hR cs
  unfold beItems rowsOf
  have i1' : beL R (fl cs) (fl cs).length 0 = (dn.map (· ++ [61]), (fl pre).length) := i1
  rw [i1']
  dsimp only
  have hlen : (fl cs).length = (fl pre).length + (fl rest).length := by rw [i2, fl_app, List.length_append]
  have hdrop : (fl cs).drop (fl pre).length = fl rest := by rw [i2, fl_app, List.drop_left]
  rcases List.eq_nil_or_concat cs with hcs | ⟨cs', c, hcs⟩
  · subst hcs
    have : pre = [] ∧ rest = [] := by simpa using i2
    obtain ⟨rfl, rfl⟩ := this
    simp only [List.foldl_nil] at i5
    have hdn : dn = [] := by rw [rwFold, List.foldl_nil] at i5; cases i5; rfl
    subst hdn
    rfl
  rw [List.concat_eq_append] at hcs
  have hrne : rest ≠ [] := by rcases i4 with h | h; exact h; rw [h] at hcs; simp at hcs
  obtain ⟨r', d, hr'⟩ : ∃ r' d, rest = r' ++ [d] := by
    rcases List.eq_nil_or_concat rest with h | ⟨a, b, h⟩
    · exact absurd h hrne
    · exact ⟨a, b, by rw [h, List.concat_eq_append]⟩
  have hd : d = c := by
    have : pre ++ r' ++ [d] = cs' ++ [c] := by rw [← hcs, i2, hr']; simp
    have := (List.append_inj' this rfl).2
    simpa using this
  subst hd
  have hfr : fl rest = fl r' ++ piece d := by rw [hr', fl_app, fl_one]
  have hcl : cs.getLast? = some d := by rw [hcs]; simp
  -- what the fold gives
  have hfold : ((fl rest).length ≤ R - 1 ∧ rwFold R cs = (dn, fl rest)) ∨ ((fl rest).length = R ∧ rwFold R cs = (dn ++ [fl r'], piece d)) := by
    by_cases h : (fl rest).length ≤ R - 1
    · left; exact ⟨h, by rw [i5, fold_fit rest dn [] (by simpa using h)]; simp⟩
    · right
      refine ⟨by omega, ?_⟩
      obtain ⟨a, c', b, e', g1, g2, g3⟩ := grd hR rest (by omega)
      have hb : b = [] := by
        cases b with
        | nil => rfl
        | cons x b =>
          have := fl_pos (a := x :: b) (by simp)
          have : (fl rest).length = (fl a).length + ((piece c').length + (fl (x :: b)).length) := by rw [e', fl_app, fl_cons, List.length_append, List.length_append]
          omega
      subst hb
      have := hr'.symm.trans e'
      obtain ⟨h1, h2⟩ := List.append_inj' this rfl
      cases h2; subst h1
      rw [i5, e', fold_row hR dn g1 g2, fold_fit [d] _ _ (by have := (piece_len d).2; rw [fl_one]; simp; omega), fl_one]; rfl
  by_cases hbl : d = 32 ∨ d = 9
  · have hsd : safe d = true := by rcases hbl with rfl | rfl <;> decide
    have hpd : piece d = [d] := piece_safe hsd
    have htl : (fl cs).getLast? = some d := by rw [i2, fl_app, hfr, hpd, List.getLast?_append, List.getLast?_append]; simp
    have hbe : beLast e R (fl cs) (fl pre).length = fl r' ++ (if (fl rest).length + 2 ≤ R then quo d else if (fl rest).length + 1 = R then [d] ++ ([61] ++ e) else [61] ++ e ++ quo d) := by
      unfold beLast
      rw [htl]
      dsimp only
      rw [if_pos hbl, hdrop, hfr, hpd, List.dropLast_concat]
      have e1 : ((fl cs).length + 2 ≤ (fl pre).length + R) = ((fl r' ++ [d]).length + 2 ≤ R) := by rw [← hpd, ← hfr, hlen]; apply propext; omega
      have e2 : ((fl cs).length + 1 = (fl pre).length + R) = ((fl r' ++ [d]).length + 1 = R) := by rw [← hpd, ← hfr, hlen]; apply propext; omega
      simp only [e1, e2]
    rw [hbe]
    rcases hfold with ⟨h1, hf⟩ | ⟨h1, hf⟩
    · rw [hf]
      unfold rwEnd
      rw [hcl]
      dsimp only
      rw [if_pos hbl]
      by_cases h2 : (fl rest).length + 2 ≤ R
      · rw [if_pos h2, if_pos h2, hfr, hpd, List.dropLast_concat]
      · rw [if_neg h2, if_neg h2, if_pos (by omega), List.map_append, List.append_assoc]
        refine jn_congr e _ (by simp) (by simp) ?_
        rw [hfr, hpd]
        simp [jn]
    · rw [hf]
      unfold rwEnd
      rw [hcl]
      dsimp only
      rw [if_pos hbl, if_neg (by omega), if_neg (by omega), if_pos (by rw [hpd]; simp; omega), List.map_append, List.append_assoc (List.map _ dn)]
      refine jn_congr e _ (by simp) (by simp) ?_
      rw [hpd]
      simp [jn]
  · have hlast : beLast e R (fl cs) (fl pre).length = fl rest := by
      unfold beLast
      have htl : ∃ x, (fl cs).getLast? = some x ∧ ¬ (x = 32 ∨ x = 9) := by
        rw [i2, fl_app, hfr]
        cases hs : safe d with
        | true => rw [piece_safe hs]; exact ⟨d, by rw [List.getLast?_append, List.getLast?_append]; simp, hbl⟩
        | false =>
          rw [piece_quo hs]
          have := hex_ok _ (hex_get (d % 16))
          exact ⟨hexU.getD (d % 16) 0, by rw [List.getLast?_append, List.getLast?_append]; simp [quo], by rintro (h | h); exact this.2.2.2.2.1 h; exact this.2.2.2.2.2 h⟩
      obtain ⟨x, hx, hnb⟩ := htl
      rw [hx]
      dsimp only
      rw [if_neg hnb, hdrop]
    rw [hlast]
    have hend : ∀ st, rwEnd R cs st = rwMerge R st := by
      intro st; unfold rwEnd; rw [hcl]; dsimp only; rw [if_neg hbl]
    rw [hend]
    rcases hfold with ⟨h1, hf⟩ | ⟨h1, hf⟩
    · rw [hf]
      have : rwMerge R (dn, fl rest) = (dn, fl rest) := by
        unfold rwMerge
        dsimp only
        cases hg : dn.getLast? with
        | none => rfl
        | some x =>
          have := i6 x hg
          dsimp only
          rw [if_neg (by omega)]
      rw [this]
    · rw [hf]
      have : rwMerge R (dn ++ [fl r'], piece d) = (dn, fl rest) := by
        unfold rwMerge
        dsimp only
        rw [List.getLast?_append]
        simp only [List.getLast?_singleton, Option.some_or]
        rw [if_pos (by rw [← List.length_append, ← hfr]; exact h1), List.dropLast_concat, hfr]
      rw [this]
theorem tr_piece {c : Nat} (h13 : c ≠ 13) (h10 : c ≠ 10) : tr c = piece c := by
  unfold tr
  cases hs : safe c with
  | true => simp [piece_safe hs]
  | false => rw [piece_quo hs]; simp [h13, h10]
theorem prt_clean (l : List Nat) : ∀ (cur : List Nat) (cr : Bool), (∀ x ∈ cur, x ≠ 13 ∧ x ≠ 10) → ∀ p ∈ prt cur cr l, ∀ x ∈ p, x ≠ 13 ∧ x ≠ 10 := by
  induction l with
  | nil => intro cur cr h p hp; rw [prt] at hp; rw [List.mem_singleton.mp hp]; exact h
  | cons c r ih =>
    intro cur cr h p hp
    rw [prt] at hp
    split at hp
    · exact ih _ _ h p hp
    split at hp
    · rcases List.mem_cons.mp hp with rfl | hp
      · exact h
      · exact ih _ _ (by simp) p hp
    split at hp
    · rcases List.mem_cons.mp hp with rfl | hp
      · exact h
      · exact ih _ _ (by simp) p hp
    · rename_i h1 h2
      refine ih _ _ ?_ p hp
      intro x hx
      rcases List.mem_append.mp hx with hx | hx
      · exact h x hx
      · rw [List.mem_singleton.mp hx]; exact ⟨h1, h2⟩
theorem prt_sub (l : List Nat) : ∀ (cur : List Nat) (cr : Bool) (P : Nat → Prop), (∀ x ∈ cur, P x) → (∀ x ∈ l, P x) → ∀ p ∈ prt cur cr l, ∀ x ∈ p, P x := by
  induction l with
  | nil => intro cur cr P h _ p hp; rw [prt] at hp; rw [List.mem_singleton.mp hp]; exact h
  | cons c r ih =>
    intro cur cr P h hl p hp
    have hl' : ∀ x ∈ r, P x := fun x hx => hl x (.tail _ hx)
    rw [prt] at hp
    split at hp
    · exact ih _ _ P h hl' p hp
    split at hp
    · rcases List.mem_cons.mp hp with rfl | hp
      · exact h
      · exact ih _ _ P (by simp) hl' p hp
    split at hp
    · rcases List.mem_cons.mp hp with rfl | hp
      · exact h
      · exact ih _ _ P (by simp) hl' p hp
    · refine ih _ _ P ?_ hl' p hp
      intro x hx
      rcases List.mem_append.mp hx with hx | hx
      · exact h x hx
      · rw [List.mem_singleton.mp hx]; exact hl c (.head _)
theorem prt_last (T : List Nat) : ∀ (cur : List Nat) (cr : Bool), T ≠ [] → (cr = true → cur = []) → ((prt cur cr T).getLast? = some [] ↔ (T.getLast? = some 13 ∨ T.getLast? = some 10)) := by
  induction T with
  | nil => intro _ _ h; exact absurd rfl h
  | cons c r ih =>
    intro cur cr _ hcr
    have lc : ∀ (x : List Nat) (p : List (List Nat)), p ≠ [] → (x :: p).getLast? = p.getLast? := by
      intro x p hp
      cases p with
      | nil => exact absurd rfl hp
      | cons y p => rw [List.getLast?_cons_cons]
    cases r with
    | nil =>
      by_cases h1 : c = 10 ∧ cr = true
      · obtain ⟨rfl, rfl⟩ := h1
        rw [hcr rfl]; simp [prt]
      by_cases h2 : c = 13
      · subst h2; simp [prt]
      by_cases h3 : c = 10
      · subst h3
        have : cr = false := by cases cr with | false => rfl | true => exact absurd ⟨rfl, rfl⟩ h1
        subst this; simp [prt]
      · simp [prt, h2, h3]
    | cons d r =>
      rw [List.getLast?_cons_cons, prt]
      split
      · exact ih _ _ (by simp) (by simp)
      split
      · rw [lc _ _ (prt_ne _ _ _)]; exact ih _ _ (by simp) (by simp)
      split
      · rw [lc _ _ (prt_ne _ _ _)]; exact ih _ _ (by simp) (by simp)
      · exact ih _ _ (by simp) (by simp)
theorem jn_flat {e : List Nat} {α : Type} {f g : α → List (List Nat)} (ls : List α) (h : ∀ l ∈ ls, f l ≠ [] ∧ g l ≠ [] ∧ jn e (f l) = jn e (g l)) : jn e (ls.flatMap f) = jn e (ls.flatMap g) := by
  induction ls with
  | nil => rfl
  | cons l ls ih =>
    have h0 := h l (.head _)
    have ih' := ih fun x hx => h x (.tail _ hx)
    rw [List.flatMap_cons, List.flatMap_cons]
    cases ls with
    | nil => simpa using h0.2.2
    | cons l2 ls =>
      have h2 := h l2 (by simp)
      rw [jn_app e h0.1 (by rw [List.flatMap_cons]; simp [h2.1]), jn_app e h0.2.1 (by rw [List.flatMap_cons]; simp [h2.2.1]), h0.2.2, ih']
/-- what body_encode writes is the rows of the lines -/
theorem body_rows {e : List Nat} {R : Nat} (hR : 4 ≤ R) {ss : List Nat} (hne : ss ≠ []) :
    jn e ((spl [] false (ss.flatMap tr)).flatMap (beItems e R) ++ (if (ss.flatMap tr).getLast? = some 13 ∨ (ss.flatMap tr).getLast? = some 10 then [[]] else [])) = jn e ((prt [] false ss).flatMap (rowsOf R)) := by
  have hT : ss.flatMap tr ≠ [] := by
    cases ss with
    | nil => exact absurd rfl hne
    | cons a r => rw [List.flatMap_cons]; unfold tr; split <;> simp [quo]
  have hp : prt [] false (ss.flatMap tr) = (prt [] false ss).map (·.flatMap tr) := by
    have := prt_flat (f := tr) (by decide) (by decide) ss [] false (fun c _ h13 h10 => by
      rw [tr_piece h13 h10]
      refine ⟨fun h => ?_, ?_⟩
      · have := (piece_len c).1; rw [h] at this; simp at this
      · cases hs : safe c with
        | true =>
          rw [piece_safe hs]; intro x hx; rw [List.mem_singleton.mp hx]; exact ⟨h13, h10⟩
        | false =>
          rw [piece_quo hs]; intro x hx; exact (quo_brk c x hx).2)
    exact this
  have hcl := prt_clean ss [] false (by simp)
  have hmap : (prt [] false ss).map (·.flatMap tr) = (prt [] false ss).map fl := by
    apply List.map_congr_left
    intro p hp
    show p.flatMap tr = p.flatMap piece
    have := hcl p hp
    clear hcl hp
    induction p with
    | nil => rfl
    | cons c p ih =>
      rw [List.flatMap_cons, List.flatMap_cons, ih (fun x hx => this x (.tail _ hx)), tr_piece (this c (.head _)).1 (this c (.head _)).2]
  rw [hmap] at hp
  have hitems : (spl [] false (ss.flatMap tr)).flatMap (beItems e R) ++ (if (ss.flatMap tr).getLast? = some 13 ∨ (ss.flatMap tr).getLast? = some 10 then [[]] else []) = (prt [] false ss).flatMap (fun l => beItems e R (fl l)) := by
    have h1 := spl_prt (ss.flatMap tr) [] false
    have h2 := prt_last (ss.flatMap tr) [] false hT (by simp)
    have e1 : (prt [] false ss).flatMap (fun l => beItems e R (fl l)) = (prt [] false (ss.flatMap tr)).flatMap (beItems e R) := by rw [hp, List.flatMap_map]
    rw [e1, h1]
    by_cases h : (prt [] false (ss.flatMap tr)).getLast? = some []
    · rw [if_pos h, if_pos (h2.mp h)]
      have e2 : prt [] false (ss.flatMap tr) = (prt [] false (ss.flatMap tr)).dropLast ++ [[]] := by
        generalize prt [] false (ss.flatMap tr) = P at h
        rcases List.eq_nil_or_concat P with rfl | ⟨a, b, rfl⟩
        · cases h
        · rw [List.concat_eq_append] at h ⊢
          rw [List.getLast?_append] at h
          simp at h
          subst h; simp
      conv => rhs; rw [e2]
      rw [List.flatMap_append]
      congr 1
    · rw [if_neg h, if_neg (fun x => h (h2.mpr x)), List.append_nil]
  rw [hitems]
  refine jn_flat _ fun l _ => ⟨by simp [beItems], by simp [rowsOf], line_rows hR l⟩

-- Nb1

noncomputable abbrev prg : Program := PySem.Challenge.rw_nb0180_01.row.prog
noncomputable abbrev KK (w : World) : Frag := hd.heap_1 w.params
noncomputable abbrev NoE : Value → Shared → Prop := fun _ _ => False

/-- the ground: the top's objects and names, as they lie in a heap -/
structure Gd (w : World) (h : Heap) : Prop where
  k : (KK w).In h
  t : ∃ p loose mg mb, TopRead p loose mg mb h
  ns : h.NoSeer
theorem Gd.keeps {w : World} {h h' : Heap} (G : Gd w h) (st : ∀ b o, h.get? b = some o → h'.get? b = some o) : Gd w h' :=
  ⟨G.k.keeps st, let ⟨p, l, mg, mb, T⟩ := G.t; ⟨p, l, mg, mb, T.keeps st⟩, G.ns.keeps st⟩

/-- room for n more calls, one within the other -/
structure Am (A : Around) (n : Nat) : Prop where
  hh : A.handled = none
  hd : A.depth + n < 800
  hu : A.units + 100 * n < 4000
  fr : ∃ l, A.frames = some l
theorem Am.deeper {A : Around} {n : Nat} {env : Env} (a : Am A (n + 1)) : Am (A.deeper env) n :=
  ⟨a.hh, by have := a.hd; show A.depth + 1 + n < _; omega, by have := a.hu; show A.units + 3 + 100 * n < 4000; omega, let ⟨l, e⟩ := a.fr; ⟨env :: l, Around.frames_deeper e⟩⟩
theorem Am.less {A : Around} {n : Nat} (a : Am A (n + 1)) : Am A n := ⟨a.hh, by have := a.hd; omega, by have := a.hu; omega, a.fr⟩
theorem Am.dp {A : Around} {n : Nat} (a : Am A n) : A.depth < recursionLimit := by have := a.hd; show A.depth < 1000; omega

noncomputable def upd (m : Str → Option Value) (x : Str) (v : Value) : Str → Option Value := fun y => if y = x then some v else m y
theorem lk_eq {m : Str → Option Value} {x : Str} {v : Value} : upd m x v x = some v := if_pos rfl
theorem lk_ne {m : Str → Option Value} {x y : Str} {v : Value} {r : Option Value} (h : y ≠ x) (e : m y = r) : upd m x v y = r := (if_neg h).trans e

structure St (h₀ : Heap) (L : Addr) (h : Heap) (m : Str → Option Value) (news : List (Addr × Obj)) : Prop where
  F : Fr h₀ L h m
  N : News h₀ L h news
  D : (news.map (·.1)).Nodup

section
variable {h₀ h h' : Heap} {L : Addr} {m : Str → Option Value} {news : List (Addr × Obj)}
theorem St.drop {p : Addr × Obj} (S : St h₀ L h m (p :: news)) : St h₀ L h m news :=
  ⟨S.F, fun q hq => S.N q (.tail _ hq), (List.nodup_cons.mp S.D).2⟩
theorem St.swap {p q : Addr × Obj} (S : St h₀ L h m (p :: q :: news)) : St h₀ L h m (q :: p :: news) :=
  ⟨S.F, fun r hr => S.N r (by simp only [List.mem_cons] at hr ⊢; exact hr.elim (fun e => .inr (.inl e)) fun e => e.elim .inl fun e => .inr (.inr e)),
    by have := S.D; simp only [List.map_cons, List.nodup_cons, List.mem_cons, not_or] at this ⊢; exact ⟨⟨Ne.symm this.1.1, this.2.1⟩, this.1.2, this.2.2⟩⟩
theorem St.perm {news' : List (Addr × Obj)} (S : St h₀ L h m news) (p : news.Perm news') : St h₀ L h m news' :=
  ⟨S.F, fun q hq => S.N q (p.mem_iff.mpr hq), (p.map (·.1)).nodup_iff.mp S.D⟩
theorem St.sub {news' : List (Addr × Obj)} (S : St h₀ L h m news) (p : news'.Sublist news) : St h₀ L h m news' :=
  ⟨S.F, fun q hq => S.N q (p.subset hq), (p.map (·.1)).nodup S.D⟩
theorem St.get {a : Addr} {o : Obj} (S : St h₀ L h m news) (hm : (a, o) ∈ news) : h.get? a = some o := S.N.get hm
theorem St.nil {h₀ : Heap} {L : Addr} {h : Heap} {m : Str → Option Value} (F : Fr h₀ L h m) : St h₀ L h m [] := ⟨F, News.nil, List.nodup_nil⟩

/-- a heap that keeps all that this one holds, with new objects in it -/
theorem St.grow (S : St h₀ L h m news) (st : ∀ b o, h.get? b = some o → h'.get? b = some o) {ex : List (Addr × Obj)} (hx : ∀ p ∈ ex, h'.get? p.1 = some p.2 ∧ h.get? p.1 = none) (hd : (ex.map (·.1)).Nodup) :
    St h₀ L h' m (ex ++ news) := by
  refine ⟨⟨S.F.ns.at' fun o e => st _ o e, fun b o e => st b o (S.F.keep b o e), S.F.above⟩, fun p hp => ?_, ?_⟩
  · rcases List.mem_append.mp hp with hp | hp
    · refine ⟨(hx p hp).1, fun e => ?_, ?_⟩
      · obtain ⟨oL, _, _, hL, _⟩ := S.F.ns
        have := (hx p hp).2
        rw [e, hL] at this; cases this
      · cases q : h₀.get? p.1 with
        | none => rfl
        | some o => have := (hx p hp).2; rw [S.F.keep _ _ q] at this; cases this
    · exact ⟨st _ _ (S.N p hp).1, (S.N p hp).2⟩
  · rw [List.map_append, List.nodup_append]
    refine ⟨hd, S.D, fun a ha b hb e => ?_⟩
    obtain ⟨p, hp, rfl⟩ := List.mem_map.mp ha
    obtain ⟨q, hq, rfl⟩ := List.mem_map.mp hb
    have h1 := (hx p hp).2
    have h2 := (S.N q hq).1
    rw [e, h2] at h1; cases h1
theorem St.stay (S : St h₀ L h m news) (st : ∀ b o, h.get? b = some o → h'.get? b = some o) : St h₀ L h' m news := S.grow (ex := []) st (fun _ h => nomatch h) List.nodup_nil
theorem St.one {a : Addr} {o : Obj} (S : St h₀ L h m news) (st : ∀ b o, h.get? b = some o → h'.get? b = some o) (h1 : h'.get? a = some o) (h2 : h.get? a = none) : St h₀ L h' m ((a, o) :: news) :=
  S.grow (ex := [(a, o)]) st (fun p hp => by cases List.mem_singleton.mp hp; exact ⟨h1, h2⟩) (by simp)

/-- one of the own objects changed -/
inductive Up (d : Addr) (o o' : Obj) : List (Addr × Obj) → List (Addr × Obj) → Prop where
  | head {r : List (Addr × Obj)} : Up d o o' ((d, o) :: r) ((d, o') :: r)
  | tail {p : Addr × Obj} {r r' : List (Addr × Obj)} : Up d o o' r r' → Up d o o' (p :: r) (p :: r')
theorem Up.fst {d : Addr} {o o' : Obj} {l l' : List (Addr × Obj)} (U : Up d o o' l l') : l'.map (·.1) = l.map (·.1) := by
  induction U with
  | head => rfl
  | tail _ ih => simp only [List.map_cons, ih]
theorem Up.mem {d : Addr} {o o' : Obj} {l l' : List (Addr × Obj)} (U : Up d o o' l l') : (d, o) ∈ l := by
  induction U with
  | head => exact .head _
  | tail _ ih => exact .tail _ ih
theorem Up.of {d : Addr} {o o' : Obj} {l l' : List (Addr × Obj)} (U : Up d o o' l l') (hd : (l.map (·.1)).Nodup) : ∀ p ∈ l', p = (d, o') ∨ (p ∈ l ∧ p.1 ≠ d) := by
  induction U with
  | head =>
    intro p hp
    rcases List.mem_cons.mp hp with rfl | hp
    · exact .inl rfl
    · refine .inr ⟨.tail _ hp, fun e => ?_⟩
      exact (List.nodup_cons.mp hd).1 (e ▸ List.mem_map_of_mem (f := (·.1)) hp)
  | @tail q r r' U ih =>
    intro p hp
    rw [List.map_cons, List.nodup_cons] at hd
    rcases List.mem_cons.mp hp with rfl | hp
    · refine .inr ⟨.head _, fun e => hd.1 ?_⟩
      rw [e]; exact List.mem_map_of_mem (f := (·.1)) U.mem
    · exact (ih hd.2 p hp).imp id fun x => ⟨.tail _ x.1, x.2⟩
theorem St.set {d : Addr} {o o' : Obj} {news' : List (Addr × Obj)} (S : St h₀ L h m news) (U : Up d o o' news news') (hs : Heap.SameBut d h h') (ho : h'.get? d = some o') : St h₀ L h' m news' := by
  have z := S.N _ U.mem
  refine ⟨S.F.change hs z.2.1 z.2.2, fun p hp => ?_, by rw [U.fst]; exact S.D⟩
  rcases U.of S.D p hp with rfl | ⟨hp, hne⟩
  · exact ⟨ho, z.2⟩
  · exact ⟨(hs.2 _ hne).trans (S.N p hp).1, (S.N p hp).2⟩
end

/-- a state: the first one with another heap and other tokens -/
noncomputable def Sh (s : Shared) (h : Heap) (tk : Nat) : Shared := { s with heap := h, toks := tk }
theorem Sh.self (s : Shared) : s = Sh s s.heap s.toks := rfl

theorem fresh_size (h : Heap) : h.get? h.objs.size = none := by
  cases q : h.get? h.objs.size with
  | none => rfl
  | some o => exact absurd (Heap.lt_size q) (Nat.lt_irrefl _)

/-- what is left behind a statement -/
noncomputable def Cont (M : Model) (A : Around) (rest : List Stmt) (env : Env) (Q : Flow → Shared → Prop) (E : Value → Shared → Prop) : Flow → Shared → Prop :=
  fun f s' => match f with | .next => wpAny M A (execs rest env) Q E s' | f => Q f s'
/-- a function's end -/
noncomputable def Fin (Q : Value → Shared → Prop) : Flow → Shared → Prop := fun fl s' => Q (match fl with | .ret v => v | _ => .none) s'

section
variable {M : Model} {A : Around} {E : Value → Shared → Prop} {s : Shared} {env : Env} {Q : Flow → Shared → Prop} {rest : List Stmt}
theorem Cont.next (h : wpAny M A (execs rest env) Q E s) : Cont M A rest env Q E .next s := h
theorem Cont.ret {v : Value} (h : Q (.ret v) s) : Cont M A rest env Q E (.ret v) s := h
theorem Cont.cont (h : Q .cont s) : Cont M A rest env Q E .cont s := h
theorem Fin.ret {Q : Value → Shared → Prop} {v : Value} (h : Q v s) : Fin Q (.ret v) s := h
theorem seq_any {st : Stmt} (h : wpAny M A (exec st env) (Cont M A rest env Q E) E s) : wpAny M A (execs (st :: rest) env) Q E s := wpAny_execs_cons h
theorem seq_Assign {x : Str} {pos' pos : Pos} {value : Expr} (h : wpAny M A (eval value env) (fun v s₁ => wpAny M A (storeName env x v) (fun _ s₂ => wpAny M A (execs rest env) Q E s₂) E s₁) E s)
    (hs : swapsWith value (some (.Name x pos')) pos.line env = pure false) : wpAny M A (execs (.Assign [.Name x pos'] value pos :: rest) env) Q E s :=
  wpAny_execs_cons (wpAny_Assign_Name h hs)
theorem seq_Expr {e : Expr} {pos : Pos} (h : wpAny M A (eval e env) (fun v s' => match v with | .ref _ => False | _ => wpAny M A (execs rest env) Q E s') E s)
    (hi : interactive env = false) (hs : swapsWith e none pos.line env = pure false) : wpAny M A (execs (.Expr e pos :: rest) env) Q E s := wpAny_execs_cons (wpAny_Expr h hi hs)
theorem seq_Aug {x : Str} {pos' pos : Pos} {op : Operator} {value : Expr} (h : wpAny M A (loadName env x) (fun old s₁ => wpAny M A (eval value env) (fun v s₂ => wpAny M A (inplaceOp op old v)
      (fun r s₃ => wpAny M A (storeName env x r) (fun _ s₄ => wpAny M A (execs rest env) Q E s₄) E s₃) E s₂) E s₁) E s) : wpAny M A (execs (.AugAssign (.Name x pos') op value pos :: rest) env) Q E s :=
  wpAny_execs_cons (wpAny_AugAssign_Name h)
theorem seq_Return {e : Expr} {pos : Pos} (h : wpAny M A (eval e env) (fun v => Q (.ret v)) E s) : wpAny M A (execs (.Return (some e) pos :: rest) env) Q E s := wpAny_execs_cons (wpAny_Return_some h)
theorem seq_If {test : Expr} {body orelse : List Stmt} {pos : Pos} (h : wpAny M A (isTrue test env (eval test env))
      (fun b s₂ => if b then wpAny M A (execs body env) (Cont M A rest env Q E) E s₂ else wpAny M A (execs orelse env) (Cont M A rest env Q E) E s₂) E s) : wpAny M A (execs (.If test body orelse pos :: rest) env) Q E s :=
  wpAny_execs_cons (wpAny_If h)
theorem seq_Continue {pos : Pos} (h : Q .cont s) : wpAny M A (execs (.Continue pos :: rest) env) Q E s := wpAny_execs_cons fun _ _ _ => h
theorem iteB {b : Bool} {X Y : Prop} (h1 : b = true → X) (h2 : b = false → Y) : if b = true then X else Y := by
  cases b
  · exact h2 rfl
  · exact h1 rfl
theorem iteD {c : Prop} [Decidable c] {X Y : Prop} (h1 : c → X) (h2 : ¬ c → Y) : if decide c = true then X else Y := by
  by_cases h : c
  · rw [if_pos (decide_eq_true h)]; exact h1 h
  · rw [if_neg (by simpa using h)]; exact h2 h
theorem iteT {X Y : Prop} (h : X) : if true = true then X else Y := h
theorem iteF {X Y : Prop} (h : Y) : if false = true then X else Y := h
end

section
variable {M : Model} {A : Around} {E : Value → Shared → Prop} {s : Shared} {w : World} {h₀ h : Heap} {tk : Nat} {L a : Addr} {m : Str → Option Value} {cn : Str} {cs : Scope} {ccd : Value} {cl : List (Str × Addr)} {x : Str} {pos : Pos} {v : Value} {news : List (Addr × Obj)}
theorem nmL {Q : Value → Shared → Prop} (S : St h₀ L h m news) (hv : m x = some v) (q : Q v (Sh s h tk))
    (hk : cs.kind = .function := by rfl) (hx : (envX cn cs L a ccd cl).kindOf x = some .local := by rfl) (hd : (x == ("__debug__" : Str)) = false := by decide) :
    wpAny M A (eval (.Name x pos) (envX cn cs L a ccd cl)) Q E (Sh s h tk) := nameX_L S.F hv q hk hx hd
theorem ldL {Q : Value → Shared → Prop} (S : St h₀ L h m news) (hv : m x = some v) (q : Q v (Sh s h tk))
    (hk : cs.kind = .function := by rfl) (hx : (envX cn cs L a ccd cl).kindOf x = some .local := by rfl) :
    wpAny M A (loadName (envX cn cs L a ccd cl) x) Q E (Sh s h tk) := wpAny_loadName_local (s := Sh s h tk) hk hx S.F.ns hv q
theorem nmK {Q : Value → Shared → Prop} (G : Gd w h₀) (S : St h₀ L h m news) (e : nsIn (KK w) mainGlobals x = some (some v)) (q : Q v (Sh s h tk))
    (hk : cs.kind = .function := by rfl) (hx : (envX cn cs L a ccd cl).kindOf x = some .globalImplicit := by rfl) (hd : (x == ("__debug__" : Str)) = false := by decide) :
    wpAny M A (eval (.Name x pos) (envX cn cs L a ccd cl)) Q E (Sh s h tk) := let ⟨_, _, _, _, T⟩ := G.t; nameX_K S.F G.k T e q hk hx hd
theorem nmB {Q : Value → Shared → Prop} (G : Gd w h₀) (S : St h₀ L h m news) (hv : bootBuiltins x = some v) (e : nsIn (KK w) mainGlobals x = some none) (hn : x ≠ "__name__") (q : Q v (Sh s h tk))
    (hk : cs.kind = .function := by rfl) (hx : (envX cn cs L a ccd cl).kindOf x = some .globalImplicit := by rfl) (hd : (x == ("__debug__" : Str)) = false := by decide) :
    wpAny M A (eval (.Name x pos) (envX cn cs L a ccd cl)) Q E (Sh s h tk) := let ⟨_, _, _, _, T⟩ := G.t; nameX_B S.F G.k T e hv hn q hk hx hd
theorem stL {Q : Unit → Shared → Prop} (S : St h₀ L h m news)
    (q : ∀ h', St h₀ L h' (upd m x v) news → Q () (Sh s h' (tk + 1)))
    (hk : cs.kind = .function := by rfl) (hx : (envX cn cs L a ccd cl).kindOf x = some .local := by rfl) : wpAny M A (storeName (envX cn cs L a ccd cl) x v) Q E (Sh s h tk) :=
  storeX_L (s := Sh s h tk) S.F S.N (fun h' F' N' => q h' ⟨F', N', S.D⟩) hk hx
theorem nList {vs : List Value} {Q : Value → Shared → Prop} (S : St h₀ L h m news)
    (q : ∀ l h', St h₀ L h' m ((l, listOf vs.toArray 0) :: news) → Q (.ref l) (Sh s h' tk)) (hsz : vs.length ≤ sizeLine := by size_fits) : wpAny M A (newList vs) Q E (Sh s h tk) :=
  wpAny_newObj_type (s := Sh s h tk) (q _ _ (S.one (fun _ _ e => Heap.get?_push_of_some _ e) (Heap.get?_push_size _ rfl) (fresh_size _))) (by show vs.toArray.size ≤ sizeLine; rw [List.size_toArray]; exact hsz)
theorem kInt {i : Int} {k : Nat} {env : Env} {Q : Value → Shared → Prop} (q : Q (.int i tk) (Sh s h (tk + 1))) : wpAny M A (eval (.Constant (.int i) k pos) env) Q E (Sh s h tk) := wpAny_Constant_int q
theorem kStr {x : Str} {k : Nat} {env : Env} {Q : Value → Shared → Prop} (q : Q (.str x tk) (Sh s h (tk + 1))) : wpAny M A (eval (.Constant (.str x) k pos) env) Q E (Sh s h tk) := Calls.Constant_str q
theorem kByt {x : List UInt8} {k : Nat} {env : Env} {Q : Value → Shared → Prop} (q : Q (.bytes x.toArray tk) (Sh s h (tk + 1))) : wpAny M A (eval (.Constant (.bytes x) k pos) env) Q E (Sh s h tk) := fun _ _ _ => q
end

section
variable {A : Around} {E : Value → Shared → Prop} {s : Shared} {h : Heap} {tk : Nat} {w : World} {Q : Value → Shared → Prop} {name qual : Str} {params : Arguments} {body : List Stmt} {scope : Scope} {dV kV doc pm cdv ct oc : Value} {an od : Option Addr} {osl : Array (Option Value)} {f : Addr} {pos : List Value} {kw : List (Str × Value)} {binds : List (Str × Value)}
theorem codeE {c : Code} {M : Model} (q : codeAny M A c (fun r s' => match r with | .ok (.ret v) => Q v s' | _ => False) s) : codeAny M A c (fun r s' => match r with | .ok (.ret v) => Q v s' | .ok _ => False | .error e => E e s') s :=
  codeAny_mono q fun r s' hr => by
    cases r with
    | error e => exact hr.elim
    | ok f => cases f <;> first | exact hr | exact hr.elim

/-- a def of the text is called: its body, upon the whole heap -/
theorem callD (G : Gd w h) (ho : (KK w).lookup f = some ⟨oc, od, .func (fnOf name qual params body scope dV kV doc pm an cdv ct), osl⟩) (hcd : codeIn (KK w) cdv qual = true) (am : A.depth < recursionLimit)
    (hbind : BindsTo (Sh s h tk) (fnOf name qual params body scope dV kV doc pm an cdv ct) ⟨pos, kw⟩ binds) (hloc : ∀ y ∈ binds, scope.names.lookup y.1 = some .local)
    (q : ∀ h₁ tk, St h h.objs.size h₁ (fun y => binds.reverse.lookup y) [] →
      wpAny (model prg w) (A.deeper (envX qual scope h.objs.size f cdv [])) (execs body (envX qual scope h.objs.size f cdv [])) (Fin Q) NoE (Sh s h₁ tk))
    (hco : scope.isCoroutine = false) (hgen : scope.isGenerator = false) (hk : scope.kind = .function)
    (hcell : ∀ x ∈ scope.names, x.2 ≠ .cell) : wpAny (model prg w) A (call (.ref f) pos kw) Q E (Sh s h tk) := by
  refine wpAny_call (codeE ?_)
  obtain ⟨p, loose, mg, mb, T⟩ := G.t
  refine codeAny_call_def (s := Sh s h tk) (fd := fnOf name qual params body scope dV kV doc pm an cdv ct) (body := body) (binds := binds) am (G.k _ _ ho) rfl T.nolimit (codeRec_of G.k hcd) rfl hbind hcell hloc (fun h₁ hns hk₁ => ?_) hco hgen hk
  exact wpAny_mono (q h₁ _ (St.nil ⟨hns, hk₁, Nat.le_refl _⟩)) (fun fl s' hq => by cases fl <;> exact hq) fun _ _ e => e.elim
end

section
variable {prog : Program} {w : World} {A : Around} {s : Shared} {h : Heap} {tk : Nat} {env : Env} {h₀ : Heap} {x : Str} {body : List Stmt} {Q : Flow → Shared → Prop}

/-- the end of a turn of a loop -/
noncomputable def TurnEnd (h₀ : Heap) (L : Addr) (J : (Str → Option Value) → List (Addr × Obj) → Prop) (it : Addr × Obj) (s : Shared) (Q : Flow → Shared → Prop) (f : Flow) (s₂ : Shared) : Prop :=
  match f with
  | .ret v => Q (.ret v) s₂
  | .brk => Q .next s₂
  | _ => ∃ h' tk m' news', s₂ = Sh s h' tk ∧ St h₀ L h' m' (it :: news') ∧ J m' news'
theorem TurnEnd.next {L : Addr} {J : (Str → Option Value) → List (Addr × Obj) → Prop} {it : Addr × Obj} {h' : Heap} {tk : Nat} {m' : Str → Option Value} {news' : List (Addr × Obj)}
    (S : St h₀ L h' m' (it :: news')) (hj : J m' news') : TurnEnd h₀ L J it s Q .next (Sh s h' tk) := ⟨h', tk, m', news', rfl, S, hj⟩
theorem TurnEnd.cont {L : Addr} {J : (Str → Option Value) → List (Addr × Obj) → Prop} {it : Addr × Obj} {h' : Heap} {tk : Nat} {m' : Str → Option Value} {news' : List (Addr × Obj)}
    (S : St h₀ L h' m' (it :: news')) (hj : J m' news') : TurnEnd h₀ L J it s Q .cont (Sh s h' tk) := ⟨h', tk, m', news', rfl, S, hj⟩

/-- a for over a walk: what all the walks of lists, ranges, bytes and strs share -/
theorem iter_walk {I src : Addr} {n : Nat} {P : Nat → Value → Prop} {Sv : Nat → Heap → Prop} {m₀ : Str → Option Value} {news : List (Addr × Obj)} {fp : List Addr}
    (J : Nat → (Str → Option Value) → List (Addr × Obj) → Prop) (W : Walks prog w A I fp [I] n P Sv) (hfp : ∀ b ∈ fp, b = I ∨ b = src) (hSI : ∀ i h, Sv i h → ∃ o, h.get? I = some o) {io : Obj} (hst : Sv 0 h) (hI : h₀.get? I = none)
    (S : St h₀ env.locals h m₀ ((I, io) :: news)) (hj : J 0 m₀ news) (hls : src ≠ env.locals)
    (hsrc : (∃ o, h₀.get? src = some o) ∨ (∃ o, ∀ i m n, J i m n → (src, o) ∈ n) ∨ src = I)
    (turn : ∀ i v m₁ news₁ h tk io, i < n → P i v → J i m₁ news₁ → St h₀ env.locals h (upd m₁ x v) ((I, io) :: news₁) →
      wpAny (model prog w) A (execs body env) (TurnEnd h₀ env.locals (J (i + 1)) (I, io) s Q) NoE (Sh s h tk))
    (done : ∀ m₁ news₁ h tk, J n m₁ news₁ → St h₀ env.locals h m₁ news₁ → Q .next (Sh s h tk)) :
    LoopAtV prog w A h₀ env x body Q NoE (.ref I) (Sh s h tk) := by
  have hIL : env.locals ≠ I := fun e => (S.N (I, io) (.head _)).2.1 e.symm
  refine ⟨I, fp, [I], n, P, Sv, m₀, news, fun i m nw => (nw.map (·.1)).Nodup ∧ I ∉ nw.map (·.1) ∧ J i m nw, rfl, W, fun hm => ?_, fun b hb => ?_, fun p hp hq => ?_, hst, S.F, S.drop.N, ⟨S.drop.D, (List.nodup_cons.mp S.D).1, hj⟩, ?_, ?_⟩
  · rcases hfp _ hm with e | e
    · exact hIL e
    · exact hls e.symm
  · rw [List.mem_singleton.mp hb]; exact hI
  · exact (List.nodup_cons.mp S.D).1 (List.mem_singleton.mp hq ▸ List.mem_map_of_mem (f := (·.1)) hp)
  · rintro i v m₁ news₁ s₁ own ⟨h, tk, rfl⟩ hin hP ⟨hnd, hni, hJ⟩ hoff hown hget hall hst₁ F₁ N₁
    have hIf : I ∈ fp := W.sub I (List.mem_singleton.mpr rfl)
    obtain ⟨io', hio⟩ := hSI _ _ hst₁
    have hmI : (I, io') ∈ own := hall I hIf hI io' hio
    have S₁ : St h₀ env.locals h (upd m₁ x v) ((I, io') :: news₁) := ⟨F₁, fun p hp => by
      rcases List.mem_cons.mp hp with rfl | hp
      · exact N₁ _ (List.mem_append_left _ hmI)
      · exact N₁ _ (List.mem_append_right _ hp), by rw [List.map_cons, List.nodup_cons]; exact ⟨hni, hnd⟩⟩
    refine wpAny_mono (turn i v m₁ news₁ h tk io' hin hP hJ S₁) (fun f s₂ p => ?_) fun _ _ e => e
    have fin : (∃ h' tk m' news', s₂ = Sh s h' tk ∧ St h₀ env.locals h' m' ((I, io') :: news') ∧ J (i + 1) m' news') → LoopStepU h₀ env.locals [I] own (fun m nw => (nw.map (·.1)).Nodup ∧ I ∉ nw.map (·.1) ∧ J (i + 1) m nw) (Sh s h tk) .next s₂ := by
      rintro ⟨h', tk', m', news', rfl, S', hJ'⟩
      have hnI := (List.nodup_cons.mp S'.D)
      refine ⟨rfl, h', tk', m', news', rfl, S'.F, fun p hp => ?_, fun p hp hq => ?_, hnI.2, hnI.1, hJ'⟩
      · rcases List.mem_append.mp hp with hp | hp
        · rcases hfp _ (hown p hp) with e | e
          · have e2 := hget p hp
            have : p = (I, io') := by
              obtain ⟨pa, po⟩ := p
              dsimp only at e e2; subst e
              rw [hio] at e2; cases e2; rfl
            exact this ▸ S'.N _ (.head _)
          · rcases hsrc with ⟨o, ho⟩ | ⟨o, ho⟩ | ho
            · exact absurd (N₁ p (List.mem_append_left _ hp)).2.2 (by rw [e, ho]; simp)
            · have h1 := N₁ _ (List.mem_append_right _ (ho i m₁ news₁ hJ))
              have h2 := hget p hp
              have : p = (src, o) := by
                obtain ⟨pa, po⟩ := p
                dsimp only at e h2; subst e
                rw [h1.1] at h2; cases h2; rfl
              rw [this]; exact S'.N _ (.tail _ (ho _ _ _ hJ'))
            · have e2 := hget p hp
              have : p = (I, io') := by
                obtain ⟨pa, po⟩ := p
                dsimp only at e e2; subst e
                rw [ho, hio] at e2; cases e2; rw [ho]
              exact this ▸ S'.N _ (.head _)
        · exact S'.N p (.tail _ hp)
      · exact hnI.1 (List.mem_singleton.mp hq ▸ List.mem_map_of_mem (f := (·.1)) hp)
    cases f with
    | ret v => exact .ret p
    | brk => exact .brk p
    | next => exact .next (fin p)
    | cont => exact .cont (fin p)
  · rintro h' tk m' news' F' N' _ ⟨hnd, _, hJ⟩
    exact done m' news' h' tk hJ ⟨F', N', hnd⟩

theorem iter_list {l : Addr} {vs : List Value} {m₀ : Str → Option Value} {news : List (Addr × Obj)} (J : Nat → (Str → Option Value) → List (Addr × Obj) → Prop)
    (hh : A.handled = none) (hl : h.IsList l vs.toArray) (S : St h₀ env.locals h m₀ news) (hj : J 0 m₀ news)
    (hsrc : (∃ o, h₀.get? l = some o) ∨ (∃ o, ∀ i m n, J i m n → (l, o) ∈ n))
    (turn : ∀ i v m₁ news₁ h tk it, vs[i]? = some v → J i m₁ news₁ → St h₀ env.locals h (upd m₁ x v) (it :: news₁) →
      wpAny (model prog w) A (execs body env) (TurnEnd h₀ env.locals (J (i + 1)) it s Q) NoE (Sh s h tk))
    (done : ∀ m₁ news₁ h tk, J vs.length m₁ news₁ → St h₀ env.locals h m₁ news₁ → Q .next (Sh s h tk)) :
    wpAny (model prog w) A (pyIter (.ref l)) (fun it s₂ => LoopAtV prog w A h₀ env x body Q NoE it s₂) NoE (Sh s h tk) := by
  obtain ⟨ol, hol, _⟩ := id hl
  have hne : l ≠ h.objs.size := Nat.ne_of_lt (Heap.lt_size hol)
  refine wpAny_pyIter_list (s := Sh s h tk) hl ?_
  show LoopAtV prog w A h₀ env x body Q NoE (.ref h.objs.size) (Sh s (h.push { cls := .type "list_iterator", data := .fields #[.ref l, .int 0 0] }) tk)
  have W := Walks.list (prog := prog) (w := w) hh h.objs.size l hne vs.toArray
  have hls : l ≠ env.locals := by
    rintro rfl
    rcases hsrc with ⟨o, ho⟩ | ⟨o, ho⟩
    · exact absurd (Nat.lt_of_lt_of_le (Heap.lt_size ho) S.F.above) (Nat.lt_irrefl _)
    · exact (S.N _ (ho 0 _ _ hj)).2.1 rfl
  refine iter_walk (s := s) (tk := tk) (src := l) J W (fun b hb => ?_) (fun i h st => ?_) ⟨⟨_, Heap.get?_push_size _ rfl, rfl, rfl⟩, hl.at fun o e => Heap.get?_push_of_some _ e⟩ ?_
    (S.one (o := { cls := .type "list_iterator", data := .fields #[.ref l, .int 0 0] }) (fun _ _ e => Heap.get?_push_of_some _ e) (Heap.get?_push_size _ rfl) (fresh_size _)) hj hls (hsrc.imp id .inl)
    (fun i v m₁ news₁ h tk io hi hP hJ S' => turn i v m₁ news₁ h tk _ (by simpa using hP) hJ S') (fun m₁ news₁ h tk hJ S' => done m₁ news₁ h tk (by simpa using hJ) S')
  · simpa using hb
  · obtain ⟨o, ho, _⟩ := st.1
    exact ⟨o, ho⟩
  · cases q : h₀.get? h.objs.size with
    | none => rfl
    | some o => exact absurd (Heap.lt_size (S.F.keep _ _ q)) (Nat.lt_irrefl _)

/-- a while, by a measure -/
theorem while_inv {L : Addr} {test : Expr} {pos : Pos} {m : Str → Option Value} {news : List (Addr × Obj)} (J : Nat → (Str → Option Value) → List (Addr × Obj) → Prop) {n₀ : Nat}
    (S : St h₀ L h m news) (hJ : J n₀ m news)
    (turn : ∀ n m₁ news₁ h₁ tk₁, St h₀ L h₁ m₁ news₁ → J n m₁ news₁ →
      wpAny (model prog w) A (isTrue test env (eval test env)) (fun b s₂ =>
        if b = true then wpAny (model prog w) A (execs body env) (fun f s₃ => match f with
          | .ret v => Q (.ret v) s₃
          | .brk => Q .next s₃
          | _ => ∃ h' tk m₂ news₂ n', s₃ = Sh s h' tk ∧ St h₀ L h' m₂ news₂ ∧ n' < n ∧ J n' m₂ news₂) NoE s₂ else Q .next s₂) NoE (Sh s h₁ tk₁)) :
    wpAny (model prog w) A (exec (.While test body [] pos) env) Q NoE (Sh s h tk) := by
  refine wpAny_While (codeAny_whileLoop (fun n s' => ∃ h₁ tk₁ m₁ news₁, s' = Sh s h₁ tk₁ ∧ St h₀ L h₁ m₁ news₁ ∧ J n m₁ news₁) ?_ n₀ ⟨h, tk, m, news, rfl, S, hJ⟩)
  rintro n s' ⟨h₁, tk₁, m₁, news₁, rfl, S₁, J₁⟩
  refine wpAny_mono (turn n m₁ news₁ h₁ tk₁ S₁ J₁) (fun b s₂ h₂ => ?_) fun _ _ e => e.elim
  cases b with
  | false =>
    simp only [Bool.false_eq_true, if_false] at h₂ ⊢
    exact wpAny_execs_nil h₂
  | true =>
    simp only [if_true] at h₂ ⊢
    refine wpAny_mono h₂ (fun f s₃ h₃ => ?_) fun _ _ e => e.elim
    cases f with
    | ret v => exact h₃
    | brk => exact h₃
    | next =>
      obtain ⟨h', tk, m₂, news₂, n', rfl, S₂, hn, J₂⟩ := h₃
      exact ⟨n', hn, h', tk, m₂, news₂, rfl, S₂, J₂⟩
    | cont =>
      obtain ⟨h', tk, m₂, news₂, n', rfl, S₂, hn, J₂⟩ := h₃
      exact ⟨n', hn, h', tk, m₂, news₂, rfl, S₂, J₂⟩
end

-- NbMac
section
variable {w : World} {A : Around} {E : Value → Shared → Prop} {s : Shared} {h : Heap} {tk : Nat} {h₀ : Heap} {L L' D f : Addr} {m : Str → Option Value} {news news' : List (Addr × Obj)} {a b : Int} {t u : Tok} {Q : Value → Shared → Prop} {n : Nat} {cn : Str} {cs : Scope} {cdv : Value} {cl : List (Str × Addr)} {prog : Program}
theorem iFdiv (am : Am A (n + 1)) (G : Gd w h₀) (S : St h₀ L h m news) (hb : 0 < b) (q : Q (.int (a / b) tk) (Sh s h (tk + 1))) (hg : cs.isGenerator = false := by rfl) (hc : cs.isCoroutine = false := by rfl) :
    wpAny (model prg w) (A.deeper (envX cn cs L' f cdv cl)) (binaryOp .FloorDiv (.int a t) (.int b u)) Q E (Sh s h tk) := by
  obtain ⟨p, loose, mg, mb, T⟩ := G.t
  obtain ⟨l, hl⟩ := am.fr
  refine floordiv_int (s := Sh s h tk) (by omega) ?_ (.inr (PylongRoom.of (T.nolimit.keeps S.F.keep) (by have := am.hd; show A.depth + 1 + 100 < 1000; omega) (SeerAt.of (G.ns.keeps S.F.keep) rfl (Around.frames_deeper hl) hg hc rfl rfl)))
  rw [Int.fdiv_eq_ediv_of_nonneg _ (by omega)]
  exact q
theorem iMod (hb : 0 < b) (q : Q (.int (a % b) tk) (Sh s h (tk + 1))) : wpAny (model prog w) A (binaryOp .Mod (.int a t) (.int b u)) Q E (Sh s h tk) := by
  refine mod_int (s := Sh s h tk) (by omega) ?_
  rw [Int.fmod_eq_emod_of_nonneg _ (by omega)]
  exact q
theorem iAdd (q : Q (.int (a + b) tk) (Sh s h (tk + 1))) : wpAny (model prog w) A (binaryOp .Add (.int a t) (.int b u)) Q E (Sh s h tk) := add_int q
theorem iSub (q : Q (.int (a - b) tk) (Sh s h (tk + 1))) : wpAny (model prog w) A (binaryOp .Sub (.int a t) (.int b u)) Q E (Sh s h tk) := sub_int' q
theorem iLt (q : Q (.bool (decide (a < b))) (Sh s h tk)) : wpAny (model prog w) A (compareOp .Lt (.int a t) (.int b u)) Q E (Sh s h tk) := lt_int q
theorem iLe (q : Q (.bool (decide (a ≤ b))) (Sh s h tk)) : wpAny (model prog w) A (compareOp .LtE (.int a t) (.int b u)) Q E (Sh s h tk) := le_int q
theorem iGt (q : Q (.bool (decide (b < a))) (Sh s h tk)) : wpAny (model prog w) A (compareOp .Gt (.int a t) (.int b u)) Q E (Sh s h tk) := gt_int q
theorem iGe (q : Q (.bool (decide (b ≤ a))) (Sh s h tk)) : wpAny (model prog w) A (compareOp .GtE (.int a t) (.int b u)) Q E (Sh s h tk) := ge_int q
theorem iEq (q : Q (.bool (a == b)) (Sh s h tk)) : wpAny (model prog w) A (compareOp .Eq (.int a t) (.int b u)) Q E (Sh s h tk) := eq_int q
theorem apnd {its : Array Value} {k : Nat} {x : Value} (S : St h₀ L h m news) (U : Up D (listOf its k) (listOf (its.push x) (k + 1)) news news')
    (q : ∀ h', St h₀ L h' m news' → Q .none (Sh s h' tk)) (hsz : its.size ≤ sizeLine) : wpAny (model prog w) A (call (.builtin "list.append") ([.ref D] ++ [x])) Q E (Sh s h tk) :=
  append_at (s := Sh s h tk) (hsz := hsz) (S.N _ U.mem).1 fun h' hs ho' => q h' (S.set U hs ho')
/-- a method is sought -/
noncomputable def GetM (M : Model) (A : Around) (ov : Value) (name : Str) (pl : Sem Bool) (K : Value → List Value → Shared → Prop) (E : Value → Shared → Prop) (s : Shared) : Prop := wpAny M A (getMethod ov name pl) (fun fx s₂ => K fx.1 fx.2 s₂) E s
theorem MCall {M : Model} {env : Env} {o : Expr} {name : Str} {apos pos : Pos} {args : List Expr} {pl : Sem Bool}
    (q : wpAny M A (eval o env) (fun ov s₁ => GetM M A ov name pl (fun f first s₂ => wpAny M A (callWith pos f first (backTo pos (starEach args env)) []) Q E s₂) E s₁) E s)
    (he : eval (.Call (.Attribute o name apos) args [] pos) env = (do
      let ov ← eval o env
      standAt apos.atName
      let (f, first) ← holding [ov] (getMethod ov name pl)
      callWith pos f first (backTo pos (starEach args env)) [])) :
    wpAny M A (eval (.Call (.Attribute o name apos) args [] pos) env) Q E s := MethodCall_ q he
theorem lAppend {its : Array Value} {k : Nat} {pl : Sem Bool} {Q : Value → List Value → Shared → Prop} (S : St h₀ L h m news) (hm : (D, listOf its k) ∈ news)
    (q : Q (.builtin "list.append") [.ref D] (Sh s h tk)) : GetM (model prog w) A (.ref D) (Str.ofString "append") pl Q E (Sh s h tk) := listMethod_K (s := Sh s h tk) S.N hm PySem.F.slot_list_append PySem.F.type_list_append q
theorem ints_snoc {vs : List Value} {ns : List Int} {n : Int} {t : Tok} (h : IntsAre vs ns) : IntsAre (vs ++ [.int n t]) (ns ++ [n]) := by
  induction h with
  | nil => exact .cons _ _ .nil
  | cons a b _ ih => exact .cons _ _ ih
end
local macro_rules | `(tactic| walk_at "m:lk") => `(tactic| first | with_reducible exact lk_eq | with_reducible assumption | ((with_reducible refine lk_ne ?_ ?_); decide; walk_at "m:lk") | rfl)
local macro_rules | `(tactic| walk_at "m:mem") => `(tactic| first | exact List.Mem.head _ | (refine List.Mem.tail _ ?_; walk_at "m:mem"))
local macro_rules | `(tactic| walk_at "m:up") => `(tactic| first | with_reducible exact Up.head | (with_reducible apply Up.tail; walk_at "m:up"))
/-- one structural step -/
local macro_rules | `(tactic| walk_at "m:1") => `(tactic| first
  | ((with_reducible refine seq_Assign ?_ ?_); rotate_left; rfl)
  | with_reducible refine seq_If ?_
  | with_reducible refine seq_Return ?_
  | with_reducible refine seq_Aug ?_
  | ((with_reducible refine seq_Expr ?_ ?_ ?_); rotate_left; rfl; rfl)
  | ((with_reducible refine' stL ?sa ?sb ?sc ?sd); (case sc => rfl); (case sd => rfl); (case sa => with_reducible assumption); intro h' S)
  | with_reducible refine wpAny_execs_nil ?_
  | with_reducible refine Cont.next ?_
  | with_reducible refine Cont.ret ?_
  | with_reducible refine Fin.ret ?_
  | with_reducible refine kInt ?_
  | with_reducible refine kStr ?_
  | with_reducible refine PyProof.Rows.Constant_bool ?_
  | with_reducible refine wpAny_BinOp ?_
  | with_reducible refine wpAny_isTrue_Compare1 ?_
  | with_reducible refine wpAny_Compare1 ?_
  | with_reducible refine wpAny_truthy_bool ?_
  | with_reducible refine List_ ?_
  | with_reducible refine Subscript_ ?_
  | ((with_reducible refine spliced_more ?_ ?_); rotate_left; rfl)
  | with_reducible refine spliced_none ?_
  | ((with_reducible refine' MCall ?ma ?mb); (case mb => rfl))
  | ((with_reducible refine' apnd ?sa ?sb ?sc ?sz); (case sa => with_reducible assumption); (case sb => walk_at "m:up"); (case sz => (show _ ≤ 16777216; simp only [List.size_toArray, List.length_reverse, List.length_map, List.length_cons, List.length_nil, List.length_append]; omega)); intro h' S)
  | ((with_reducible refine Call_ ?_ ?_); rotate_left; rfl)
  | with_reducible refine callWith_method0 ?_
  | ((with_reducible refine callWith_method1 ?_ ?_ ?_); rotate_left; rfl; rfl)
  | with_reducible refine UnaryOp_ ?_
  | with_reducible refine iAdd ?_
  | with_reducible refine iSub ?_
  | with_reducible refine iLt ?_
  | with_reducible refine iLe ?_
  | with_reducible refine iGt ?_
  | with_reducible refine iGe ?_
  | with_reducible refine iEq ?_
  | (with_reducible refine iMod ?_ ?_; decide)
  | ((with_reducible refine' lAppend ?sa ?sb ?sc); (case sa => with_reducible assumption); (case sb => walk_at "m:mem"))
  | ((with_reducible refine' nmL ?sa ?sb ?sc ?sd ?se ?sf); (case sd => rfl); (case se => rfl); (case sf => decide); (case sa => with_reducible assumption); (case sb => walk_at "m:lk")))

-- NbS

/-- the part of a list that a slice takes, by ones -/
noncomputable def cutL {α : Type} (l : List α) (lo hi : Option Int) : List α :=
  let clip (v : Option Int) (d : Nat) : Nat := match v with
    | none => d
    | some i => (if i < 0 then i + l.length else i).toNat
  (l.take (clip hi l.length)).drop (clip lo 0)

section
variable {w : World} {A : Around} {E : Value → Shared → Prop} {s : Shared} {h : Heap} {tk : Nat} {h₀ : Heap} {L : Addr} {m : Str → Option Value} {news : List (Addr × Obj)} {a b : List Nat} {c d : Nat} {i j : Int} {t u : Tok} {Q : Value → Shared → Prop} {prog : Program}
theorem kC {M : Model} {x : Str} {l : List Nat} {k : Nat} {pos : Pos} {env : Env} (e : x = tx l) (q : Q (.str (tx l) tk) (Sh s h (tk + 1))) : wpAny M A (eval (.Constant (.str x) k pos) env) Q E (Sh s h tk) := by
  subst e; exact kStr q
theorem sEq (q : Q (.bool (decide (a = b))) (Sh s h tk)) : wpAny (model prog w) A (compareOp .Eq (.str (tx a) t) (.str (tx b) u)) Q E (Sh s h tk) := eq_str (by rw [tx_beq]; exact q)
theorem sNe (q : Q (.bool (decide (a ≠ b))) (Sh s h tk)) : wpAny (model prog w) A (compareOp .NotEq (.str (tx a) t) (.str (tx b) u)) Q E (Sh s h tk) := ne_str (by rw [tx_bne]; exact q)
theorem sLe1 (q : Q (.bool (decide (c ≤ d))) (Sh s h tk)) : wpAny (model prog w) A (compareOp .LtE (.str (tx [c]) t) (.str (tx [d]) u)) Q E (Sh s h tk) := by
  refine P.le_str ?_
  rw [tx_cps, tx_cps]
  have : (!decide ([d] < [c])) = decide (c ≤ d) := by
    rw [Bool.eq_iff_iff, Bool.not_eq_true', decide_eq_false_iff_not, decide_eq_true_eq]
    simp [List.cons_lt_cons_iff]
  rw [this]; exact q
theorem sAdd (q : ∀ t' tk', Q (.str (tx (a ++ b)) t') (Sh s h tk')) (hz : a.length + b.length ≤ 16777216) : wpAny (model prog w) A (binaryOp .Add (.str (tx a) t) (.str (tx b) u)) Q E (Sh s h tk) :=
  add_str (fun t' tk' => by rw [tx_app]; exact q t' tk') (by rw [tx_len, tx_len]; exact hz)
theorem sIAdd (q : ∀ t' tk', Q (.str (tx (a ++ b)) t') (Sh s h tk')) (hz : a.length + b.length ≤ 16777216) : wpAny (model prog w) A (inplaceOp .Add (.str (tx a) t) (.str (tx b) u)) Q E (Sh s h tk) :=
  iadd_str (fun t' tk' => by rw [tx_app]; exact q t' tk') (by rw [tx_len, tx_len]; exact hz)
theorem sIn (q : Q (.bool (decide (c ∈ b))) (Sh s h tk)) : wpAny (model prog w) A (compareOp .In (.str (tx [c]) t) (.str (tx b) u)) Q E (Sh s h tk) := by
  refine in_str ?_
  have := StrLaws.found_one (tx b) c
  rw [tx_cps] at this
  rw [show tx [c] = ⟨#[c]⟩ from rfl, this]; exact q
theorem sNotIn (q : Q (.bool (decide (c ∉ b))) (Sh s h tk)) : wpAny (model prog w) A (compareOp .NotIn (.str (tx [c]) t) (.str (tx b) u)) Q E (Sh s h tk) := by
  refine notIn_str ?_
  have := StrLaws.found_one (tx b) c
  rw [tx_cps] at this
  rw [show tx [c] = ⟨#[c]⟩ from rfl, this, ← decide_not]; exact q
theorem sLen (hz : a.length ≤ 16777216) (q : Q (.int (a.length : Nat) (tk + 1)) (Sh s h (tk + 1 + 1))) : wpAny (model prog w) A (call (.builtin "len") [.str (tx a) t]) Q E (Sh s h tk) := by
  refine len_str (by rw [tx_len]; omega) ?_
  rw [tx_len]; exact q
theorem sTruthy (hz : a.length ≤ 16777216) (q : Q' (decide (a ≠ [])) (Sh s h (tk + 1 + 1))) : wpAny (model prog w) A (truthy (.str (tx a) t)) Q' E (Sh s h tk) := by
  refine P.truthy_str (by rw [tx_len]; omega) ?_
  have : (((tx a).length : Int) != 0) = decide (a ≠ []) := by
    rw [tx_len, Bool.eq_iff_iff]; cases a <;> simp; omega
  rw [this]; exact q
theorem sItem {value slice : Expr} (hc : a[i.toNat]? = some c) (h0 : 0 ≤ i) (hz : a.length ≤ 16777216) (q : Q (.str (tx [c]) tk) (Sh s h (tk + 1)))
    (hs : subscripted slice false (.str (tx a) t) (.int i u) = operate [.str (tx a) t, .int i u] (getItem (.str (tx a) t) (.int i u)))
    (ht : ∀ r, letTemporaryGo value (.str (tx a) t) r = pure ()) :
    wpAny (model prog w) A (subscriptTail value slice (.str (tx a) t) (.int i u)) Q E (Sh s h tk) := by
  have hlt : i.toNat < a.length := (List.getElem?_eq_some_iff.mp hc).1
  refine subscriptTail_builtin (typeIs_str _ _ _) slot_str_getitem.lookup (getItem_str (c := c) ?_ ?_ q) hs ht
  · simp only [Bool.or_eq_false_iff, decide_eq_false_iff_not]; omega
  · rw [StrLaws.at_nonneg h0]
    simp only [tx]
    simpa using hc
theorem sLast {value slice : Expr} {l : List Nat} (hl : a = l ++ [c]) (hz : a.length ≤ 16777216) (q : Q (.str (tx [c]) tk) (Sh s h (tk + 1)))
    (hs : subscripted slice false (.str (tx a) t) (.int (-1) u) = operate [.str (tx a) t, .int (-1) u] (getItem (.str (tx a) t) (.int (-1) u)))
    (ht : ∀ r, letTemporaryGo value (.str (tx a) t) r = pure ()) :
    wpAny (model prog w) A (subscriptTail value slice (.str (tx a) t) (.int (-1) u)) Q E (Sh s h tk) := by
  refine subscriptTail_builtin (typeIs_str _ _ _) slot_str_getitem.lookup (getItem_str (c := c) ?_ ?_ q) hs ht
  · simp
  · rw [StrLaws.seqIndex_neg (by decide) (by rw [tx_len, hl]; simp; omega)]
    subst hl
    simp only [Option.bind_some, tx, Str.length]
    simp
    rw [show (-1 + ((l.length : Int) + 1)).toNat = l.length by omega]
    simp
end
theorem cutB {M : Model} {A : Around} {E : Value → Shared → Prop} {s : Shared} {h : Heap} {tk : Nat} {t : Sem Bool} {Q : Bool → Shared → Prop} (P : Bool)
    (h1 : wpAny M A t (fun b s' => b = P ∧ ∃ tk', s' = Sh s h tk') NoE (Sh s h tk)) (h2 : ∀ tk', Q P (Sh s h tk')) : wpAny M A t Q E (Sh s h tk) :=
  wpAny_mono h1 (fun b s' x => by obtain ⟨rfl, tk', rfl⟩ := x; exact h2 tk') fun _ _ e => e.elim
theorem testLast {M : Model} {A : Around} {E : Value → Shared → Prop} {s : Shared} {pos : Pos} {a : Value} {op : CmpOp} {r : Sem Value} {rs : List (Sem Value)} {Q : Bool → Shared → Prop} (hr : rs = [])
    (h : wpAny M A r (fun b s₁ => wpAny M A (compareOp op a b) (fun c s₂ => wpAny M A (truthy c) Q E s₂) E s₁) E s) : wpAny M A (testChain pos a [op] (r :: rs)) Q E s := by subst hr; exact test_last h
theorem sOrd {w : World} {A : Around} {E : Value → Shared → Prop} {s : Shared} {h : Heap} {tk : Nat} {prog : Program} {c : Nat} {t : Tok} {Q : Value → Shared → Prop} (q : Q (.int (c : Nat) tk) (Sh s h (tk + 1))) :
    wpAny (model prog w) A (call (.builtin "ord") [.str (tx [c]) t]) Q E (Sh s h tk) := P.ord_of_char q
theorem lItem {w : World} {A : Around} {E : Value → Shared → Prop} {s : Shared} {h : Heap} {tk : Nat} {prog : Program} {Q : Value → Shared → Prop} {value slice : Expr} {l : Addr} {vs : List Value} {k : Int} {u : Tok} {v : Value}
    (hl : h.IsList l vs.toArray) (h0 : 0 ≤ k) (hhi : k < 2 ^ 63) (hx : vs[k.toNat]? = some v) (q : Q v (Sh s h tk))
    (hs : subscripted slice false (.ref l) (.int k u) = operate [.ref l, .int k u] (getItem (.ref l) (.int k u))) :
    wpAny (model prog w) A (subscriptTail value slice (.ref l) (.int k u)) Q E (Sh s h tk) :=
  tail_any (s := Sh s h tk) hl.typeIs slot_list_getitem.lookup (wpAny_getItem_list hl h0 hhi (by simpa using hx) q) hs
/-- the last item of a list -/
theorem lLast {w : World} {A : Around} {E : Value → Shared → Prop} {s : Shared} {h : Heap} {tk : Nat} {prog : Program} {Q : Value → Shared → Prop} {value slice : Expr} {l : Addr} {its : Array Value} {u : Tok} {v : Value} {k : Int}
    (hl : h.IsList l its) (hk : k < 0) (hk2 : -(2 ^ 63) ≤ k) (hk3 : 0 ≤ k + its.size) (hx : its[(k + its.size).toNat]? = some v) (q : Q v (Sh s h tk))
    (hs : subscripted slice false (.ref l) (.int k u) = operate [.ref l, .int k u] (getItem (.ref l) (.int k u))) :
    wpAny (model prog w) A (subscriptTail value slice (.ref l) (.int k u)) Q E (Sh s h tk) :=
  tail_any (s := Sh s h tk) hl.typeIs slot_list_getitem.lookup (wpAny_getItem_list_neg hl hk (by omega) hk2 hx q) hs
theorem iNeg {w : World} {A : Around} {E : Value → Shared → Prop} {s : Shared} {h : Heap} {tk : Nat} {prog : Program} {Q : Value → Shared → Prop} {a : Int} {t : Tok} (q : Q (.int (-a) tk) (Sh s h (tk + 1))) : wpAny (model prog w) A (unaryOp .USub (.int a t)) Q E (Sh s h tk) := PyProof.Rows.neg_int q
theorem St.swap1 {h₀ h : Heap} {L : Addr} {m : Str → Option Value} {news : List (Addr × Obj)} {p q r : Addr × Obj} (S : St h₀ L h m (p :: q :: r :: news)) : St h₀ L h m (p :: r :: q :: news) := S.perm (.cons _ (.swap _ _ _))
theorem c_tab : Str.ofString "\t" = tx [9] := by decide +kernel
theorem c_sp : Str.ofString " " = tx [32] := by decide +kernel
theorem c_til : Str.ofString "~" = tx [126] := by decide +kernel
theorem c_eq : Str.ofString "=" = tx [61] := by decide +kernel
theorem c_cr : Str.ofString "\r" = tx [13] := by decide +kernel
theorem c_lf : Str.ofString "\n" = tx [10] := by decide +kernel
theorem c_crlf : Str.ofString "\r\n" = tx [13, 10] := by decide +kernel
theorem c_bl : Str.ofString " \t" = tx [32, 9] := by decide +kernel
theorem c_nil : Str.ofString "" = tx [] := by decide +kernel
theorem c_20 : Str.ofString "=20" = tx [61, 50, 48] := by decide +kernel
theorem c_09 : Str.ofString "=09" = tx [61, 48, 57] := by decide +kernel
theorem c_hex : Str.ofString "0123456789ABCDEF" = tx hexU := by decide +kernel
/-- an item of a text: the sign there is a fact of the context -/
local macro_rules | `(tactic| walk_at "m:item") => `(tactic| ((with_reducible refine' sItem ?xa ?xb ?xc ?xd ?xe ?xf); (case xa => with_reducible assumption); (case xb => omega); (case xe => rfl); (case xf => intro _; rfl); (case xc => first | decide | (simp only [List.length_append, List.length_cons, List.length_nil]; omega) | omega)))
/-- one step on texts -/
local macro_rules | `(tactic| walk_at "m:s") => `(tactic| first
  | with_reducible refine kC c_eq ?_
  | with_reducible refine kC c_nil ?_
  | with_reducible refine kC c_tab ?_
  | with_reducible refine kC c_bl ?_
  | with_reducible refine kC c_sp ?_
  | with_reducible refine kC c_til ?_
  | with_reducible refine kC c_cr ?_
  | with_reducible refine kC c_lf ?_
  | with_reducible refine kC c_crlf ?_
  | with_reducible refine kC c_20 ?_
  | with_reducible refine kC c_09 ?_
  | with_reducible refine kC c_hex ?_
  | ((with_reducible refine' sAdd ?ya ?yb); (case yb => first | omega | (simp; done) | (simp only [List.length_append, List.length_cons, List.length_nil]; omega)); intro t' tk')
  | ((with_reducible refine' sIAdd ?ya ?yb); (case yb => first | omega | (simp; done) | (simp only [List.length_append, List.length_cons, List.length_nil]; omega)); intro t' tk')
  | ((with_reducible refine' iFdiv ?ya ?yb ?yc ?yd ?ye ?yf ?yg); (case ya => with_reducible assumption); (case yb => with_reducible assumption); (case yc => with_reducible assumption); (case yd => decide); (case yf => rfl); (case yg => rfl))
  | with_reducible refine iNeg ?_
  | ((with_reducible refine' nList ?la ?lb ?lc); (case la => with_reducible assumption); (case lc => (show _ ≤ 16777216; first | decide | (simp only [List.length_cons, List.length_nil, List.length_append]; omega))); intro l' h' S)
  | with_reducible refine sEq ?_
  | with_reducible refine sNe ?_
  | with_reducible refine sLe1 ?_
  | with_reducible refine sIn ?_
  | with_reducible refine sNotIn ?_
  | with_reducible refine isTrue_or ?_
  | with_reducible refine isTrue_and ?_
  | with_reducible refine isTrue_or_nil ?_
  | with_reducible refine isTrue_and_nil ?_
  | with_reducible refine isTrue_not ?_
  | with_reducible refine isTrue_chain ?_
  | with_reducible refine test_link ?_
  | ((with_reducible refine testLast ?_ ?_); rfl)
  | with_reducible refine iteT ?_
  | with_reducible refine iteF ?_
  | with_reducible refine sOrd ?_
  | ((with_reducible refine PyProof.Rows.callWith_builtin1 ?_ ?_ ?_); rotate_left; rfl; rfl)
  | ((with_reducible refine' nmB ?na ?nb boot_ord ?nc ?nd ?ne ?nf ?ng ?nh); (case na => with_reducible assumption); (case nb => with_reducible assumption); (case nc => rfl); (case nd => decide); (case nf => rfl); (case ng => rfl); (case nh => decide))
  | walk_at "m:1")

-- Nb2

set_option maxRecDepth 100000 in
set_option maxHeartbeats 4000000 in
theorem figures_spec {w : World} {A : Around} {s : Shared} {h : Heap} {tk : Nat} {l : Addr} {vs : List Value} {ns : List Int} {Q : Value → Shared → Prop} {E : Value → Shared → Prop} (G : Gd w h) (am : Am A 1)
    (hl : h.IsList l vs.toArray) (hi : IntsAre vs ns) (hn : ns.length ≤ 14)
    (q : ∀ h' tk r us k, (∀ b o, h.get? b = some o → h'.get? b = some o) → h'.get? r = some (listOf us.toArray k) → h.get? r = none → IntsAre us (figs ns) → Q (.ref r) (Sh s h' tk)) :
    wpAny (model prg w) A (call (.ref 109) [.ref l]) Q E (Sh s h tk) := by
  refine callD (binds := [(Str.ofString "picks", .ref l)]) G (by rfl) (by rfl) am.dp (BindsTo.of_eq rfl) (locs rfl) (fun h₁ tk₁ S => ?_) rfl rfl rfl (by decide)
  iterate 7 walk_at "m:1"
  refine nList S (fun lf h₂ S => ?_)
  refine stL S (fun h₃ S => ?_)
  refine seq_any (For_invV h rfl rfl ?_ (hE := PassesOwn.never))
  walk_at "m:1"
  refine iter_list (fun i m nw => m (Str.ofString "figures") = some (.ref lf) ∧ ∃ us k, nw = [(lf, listOf us.toArray k)] ∧ IntsAre us (figs (ns.take i))) am.hh (stays_list S.F.keep hl) S ⟨lk_eq, _, _, rfl, .cons _ _ (.cons _ _ .nil)⟩ (.inl (let ⟨o, ho, _⟩ := hl; ⟨o, ho⟩)) ?_ ?_
  · rintro i v m₁ news₁ h tk it hv ⟨hf, us, k, rfl, hus⟩ S
    obtain ⟨n, hn⟩ : ∃ n, ns[i]? = some n := by
      have : i < ns.length := by rw [← hi.length]; exact (List.getElem?_eq_some_iff.mp hv).1
      exact ⟨_, List.getElem?_eq_getElem this⟩
    obtain ⟨t, ht⟩ := hi.get i n hn
    obtain rfl : v = .int n t := by rw [hv] at ht; exact Option.some.inj ht
    have hf' : figs (ns.take (i + 1)) = figs (ns.take i) ++ [if n % 4 < 2 then 62 + n % 4 else n / 4 % 64] := by
      rw [List.take_add_one, hn]; simp [figs]
    have hlen : us.length ≤ 16 := by rw [hus.length]; simp [figs]; omega
    repeat walk_at "m:1"
    refine iteD (fun hc => ?_) (fun hc => ?_)
    · repeat walk_at "m:1"
      exact TurnEnd.next (by assumption) ⟨lk_ne (by decide) hf, us ++ [.int (62 + n % 4) _], k + 1, by rw [List.push_toArray], by rw [hf', if_pos hc]; exact ints_snoc hus⟩
    · repeat walk_at "m:1"
      refine iFdiv am G S (by decide) ?_
      repeat walk_at "m:1"
      exact TurnEnd.next (by assumption) ⟨lk_ne (by decide) hf, us ++ [.int (n / 4 % 64) _], k + 1, by rw [List.push_toArray], by rw [hf', if_neg hc]; exact ints_snoc hus⟩
  · rintro m₁ news₁ h' tk ⟨hf, us, k, rfl, hus⟩ S
    rw [hi.length, List.take_length] at hus
    repeat walk_at "m:1"
    exact q h' _ lf us k S.F.keep (S.get (.head _)) (S.N.fresh (.head _)) hus

-- Nb3
set_option maxRecDepth 100000 in
set_option maxHeartbeats 4000000 in
theorem piece_spec {w : World} {A : Around} {s : Shared} {h : Heap} {tk : Nat} {c : Nat} {t : Tok} {Q : Value → Shared → Prop} {E : Value → Shared → Prop} (G : Gd w h) (am : Am A 1) (hc : c < 256)
    (q : ∀ h' tk t', (∀ b o, h.get? b = some o → h'.get? b = some o) → Q (.str (tx (piece c)) t') (Sh s h' tk)) :
    wpAny (model prg w) A (call (.ref 133) [.str (tx [c]) t]) Q E (Sh s h tk) := by
  refine callD (binds := [(Str.ofString "sign", .str (tx [c]) t)]) G (by rfl) (by rfl) am.dp (BindsTo.of_eq rfl) (locs rfl) (fun h₁ tk₁ S => ?_) rfl rfl rfl (by decide)
  walk_at "m:s"
  refine cutB (safe c) ?_ (fun tk₂ => ?_)
  · repeat' (first | walk_at "m:s" | with_reducible refine iteD (fun _ => ?_) (fun _ => ?_))
    all_goals exact ⟨by first | (simp_all [safe]; done) | (simp_all [safe]; omega), _, rfl⟩
  · refine iteB (fun hs => ?_) (fun hs => ?_)
    · repeat walk_at "m:s"
      have : piece c = [c] := by rw [piece, if_pos hs]
      have q' := q h₁ tk₂ t S.F.keep
      rw [this] at q'; exact q'
    · repeat walk_at "m:s"
      have e1 : hexU[((c : Int) / 16).toNat]? = some (hexU.getD (c / 16) 0) := by
        have : c / 16 < 16 := by omega
        rw [show ((c : Int) / 16).toNat = c / 16 by omega, List.getD_eq_getElem?_getD, List.getElem?_eq_getElem (by exact this)]; rfl
      have e2 : hexU[((c : Int) % 16).toNat]? = some (hexU.getD (c % 16) 0) := by
        have : c % 16 < 16 := by omega
        rw [show ((c : Int) % 16).toNat = c % 16 by omega, List.getD_eq_getElem?_getD, List.getElem?_eq_getElem (by exact this)]; rfl
      walk_at "m:item"
      repeat walk_at "m:s"
      walk_at "m:item"
      repeat walk_at "m:s"
      have hp : [61] ++ [hexU.getD (c / 16) 0] ++ [hexU.getD (c % 16) 0] = piece c := by rw [piece, if_neg (by rw [hs]; exact Bool.false_ne_true)]; rfl
      rw [hp]
      exact q _ _ _ (St.F (by assumption)).keep

theorem gl_QMAP (w : World) : nsIn (KK w) mainGlobals (Str.ofString "_QUOPRI_MAP") = some (some (.ref 24)) := by rfl
/-- a table of texts, place by place -/
noncomputable def tabOk (f : Nat → List Nat) : Nat → List Value → Bool
  | _, [] => true
  | i, .str x _ :: r => decide (x = tx (f i)) && tabOk f (i + 1) r
  | _, _ => false
theorem tabOk_get {f : Nat → List Nat} : ∀ {vs : List Value} {i : Nat}, tabOk f i vs = true → ∀ k, k < vs.length → ∃ t, vs[k]? = some (.str (tx (f (i + k))) t)
  | [], _, _, _, hk => absurd hk (Nat.not_lt_zero _)
  | .str x t :: r, i, h, 0, _ => ⟨t, by simp only [tabOk, Bool.and_eq_true, decide_eq_true_eq] at h; simp [h.1]⟩
  | .str x t :: r, i, h, k + 1, hk => by
    simp only [tabOk, Bool.and_eq_true] at h
    obtain ⟨t, e⟩ := tabOk_get h.2 k (by simpa using hk)
    exact ⟨t, by rw [List.getElem?_cons_succ, e]; congr 4; omega⟩
noncomputable def seqOf (K : Frag) (a : Addr) : List Value := match K.lookup a with
  | some ⟨_, _, .seq xs _, _⟩ => xs.toList
  | _ => []
noncomputable def isLst (K : Frag) (a : Addr) : Bool := match K.lookup a with
  | some ⟨.type "list", _, .seq _ _, _⟩ => true
  | _ => false
theorem isLst_of {K : Frag} {a : Addr} {h : Heap} (X : K.In h) (e : isLst K a = true) : h.IsList a (seqOf K a).toArray := by
  unfold isLst at e
  split at e
  · rename_i d xs n sl ho
    refine ⟨_, X _ _ ho, rfl, n, ?_⟩
    simp [seqOf, ho]
  · cases e

-- Nb4
set_option maxRecDepth 100000 in
theorem qmap_ok (w : World) : tabOk quo 0 (seqOf (KK w) 24) = true := by kernel_rfl
set_option maxRecDepth 100000 in
theorem qmap_len (w : World) : (seqOf (KK w) 24).length = 256 := by kernel_rfl
set_option maxRecDepth 100000 in
theorem qmap_lst (w : World) : isLst (KK w) 24 = true := by kernel_rfl
set_option maxRecDepth 100000 in
theorem bmap_ok (w : World) : tabOk tr 0 (seqOf (KK w) 53) = true := by kernel_rfl
set_option maxRecDepth 100000 in
theorem bmap_len (w : World) : (seqOf (KK w) 53).length = 256 := by kernel_rfl
set_option maxRecDepth 100000 in
theorem bmap_lst (w : World) : isLst (KK w) 53 = true := by kernel_rfl
theorem gl_BMAP (w : World) : nsIn (KK w) mainGlobals (Str.ofString "_QUOPRI_BODY_ENCODE_MAP") = some (some (.ref 53)) := by rfl

set_option maxRecDepth 100000 in
set_option maxHeartbeats 4000000 in
theorem quote_spec {w : World} {A : Around} {s : Shared} {h : Heap} {tk : Nat} {c : Nat} {t : Tok} {Q : Value → Shared → Prop} {E : Value → Shared → Prop} (G : Gd w h) (am : Am A 1) (hc : c < 256)
    (q : ∀ h' tk t', (∀ b o, h.get? b = some o → h'.get? b = some o) → Q (.str (tx (quo c)) t') (Sh s h' tk)) :
    wpAny (model prg w) A (call (.ref 51) [.str (tx [c]) t]) Q E (Sh s h tk) := by
  refine callD (binds := [(Str.ofString "c", .str (tx [c]) t)]) G (by rfl) (by rfl) am.dp (BindsTo.of_eq rfl) (locs rfl) (fun h₁ tk₁ S => ?_) rfl rfl rfl (by decide)
  repeat walk_at "m:s"
  refine nmK G S (gl_QMAP w) ?_
  repeat walk_at "m:s"
  obtain ⟨t', ht⟩ := tabOk_get (qmap_ok w) c (by rw [qmap_len]; exact hc)
  rw [Nat.zero_add] at ht
  refine lItem (isLst_of (G.k.keeps S.F.keep) (qmap_lst w)) (by omega) (by omega) (by rw [Int.toNat_natCast]; exact ht) ?_ (by rfl)
  repeat walk_at "m:s"
  exact q _ _ _ S.F.keep

-- Nb5
section
variable {w : World} {A : Around} {E : Value → Shared → Prop} {s : Shared} {h : Heap} {tk : Nat} {prog : Program}
theorem tabLook {a : Addr} {vs : List Value} {c : Nat} {l : List Nat} {t : Tok} {Q : Builtin.Str.Mapped → Shared → Prop} (hl : h.IsList a vs.toArray) (hc : c < 256) (hv : vs[c]? = some (.str (tx l) t))
    (q : ∀ tk', Q (.text (tx l)) (Sh s h tk')) : wpAny (model prog w) A (Builtin.Str.tableLookup (.ref a) c) Q E (Sh s h tk) := by
  unfold Builtin.Str.tableLookup
  refine wpAny_bind (wpAny_attempt (wpAny_bind (wpAny_mkInt (wpAny_getItem_list (s := Sh s h (tk + 1)) (x := .str (tx l) t) hl (by omega) (by omega) (by simpa using hv) ?_))))
  dsimp only
  refine wpAny_bind (wpAny_pure ?_)
  dsimp only
  refine wpAny_bind (wpAny_pure ?_)
  dsimp only
  exact wpAny_pure (q _)
theorem forIn_inv {α β : Type} {M : Model} {E : Value → Shared → Prop} {body : α → β → Sem (ForInStep β)} {Q : β → Shared → Prop} {l : List α} (I : List α → β → Shared → Prop)
    (step : ∀ pre x post b s, l = pre ++ x :: post → I pre b s → wpAny M A (body x b) (fun r s' => match r with | .yield b' => I (pre ++ [x]) b' s' | .done _ => False) E s) {init : β} {s : Shared} (h0 : I [] init s)
    (hq : ∀ b s, I l b s → Q b s) : wpAny M A (forIn l init body) Q E s := by
  suffices H : ∀ (post pre : List α) (b : β) (s : Shared), l = pre ++ post → I pre b s → wpAny M A (forIn post b body) Q E s from H l [] init s rfl h0
  intro post
  induction post with
  | nil => intro pre b s e hI; rw [List.forIn_nil]; exact wpAny_pure (hq b s (by rw [e, List.append_nil]; exact hI))
  | cons x post ih =>
    intro pre b s e hI
    rw [List.forIn_cons]
    refine wpAny_bind (wpAny_mono (step pre x post b s e hI) (fun r s' hr => ?_) fun _ _ x => x)
    cases r with
    | done b' => exact hr.elim
    | yield b' => exact ih (pre ++ [x]) b' s' (by rw [e]; simp) hr
theorem flat_len_pre {f : Nat → List Nat} {l pre post : List Nat} (e : l = pre ++ post) : (pre.flatMap f).length ≤ (l.flatMap f).length := by
  rw [e, List.flatMap_append, List.length_append]; omega
theorem sTranslate {a : Addr} {vs : List Value} {l : List Nat} {f : Nat → List Nat} {t : Tok} {Q : Value → Shared → Prop} (hl : h.IsList a vs.toArray) (hf : tabOk f 0 vs = true) (hlen : vs.length = 256) (hb : ∀ c ∈ l, c < 256) (hne : l ≠ [])
    (hz : (l.flatMap f).length ≤ 10000000)
    (q : ∀ t' tk', Q (.str (tx (l.flatMap f)) t') (Sh s h tk')) : wpAny (model prog w) A (call (.builtin "str.translate") [.str (tx l) t, .ref a]) Q E (Sh s h tk) := by
  refine wpAny_call_entry F.slot_str_translate (typeIs_str _ _ _) F.entry_str_translate ?_ (F.args_str_translate_2 _ _)
  unfold Builtin.«str.translate»
  refine wpAny_bind (wpAny_pure ?_)
  dsimp only
  rw [if_neg (by rw [tx_len]; simpa using hne)]
  have hT : ∀ n, n ≤ 10000000 → Builtin.Str.tooLong n = false := fun n hn => by
    unfold Builtin.Str.tooLong; rw [decide_eq_false_iff_not]; show ¬ n > 16777216; omega
  rw [show (tx l).cps = l.toArray from rfl, List.forIn_toArray]
  refine wpAny_bind (forIn_inv (fun pre (b : List Str × Nat × Bool × List (Nat × Option Nat) × Bool) s' => (∃ tk', s' = Sh s h tk') ∧ (b.1.reverse.map (·.cps.toList)).flatten = pre.flatMap f ∧ b.2.1 = (pre.flatMap f).length ∧
    (∀ c a, b.2.2.2.1.lookup c = some a → ∃ d, a = some d ∧ f c = [d]) ∧ b.2.2.2.2 = false) ?_ ?_ ?_)
  · rintro pre c post ⟨pieces, total, fast, known, ad⟩ s' e ⟨⟨tk', rfl⟩, h1, h2, h3, h4⟩
    dsimp only at h1 h2 h3 h4 ⊢
    subst h4
    have hcl : c < 256 := hb c (by rw [e]; simp)
    obtain ⟨tc, hvc⟩ := tabOk_get hf c (by rw [hlen]; exact hcl)
    rw [Nat.zero_add] at hvc
    rw [if_neg (by rw [hT total (by rw [h2]; exact Nat.le_trans (flat_len_pre e) hz)]; exact Bool.false_ne_true)]
    have hA : ((tx (f c) :: pieces).reverse.map (·.cps.toList)).flatten = (pre ++ [c]).flatMap f := by
      rw [List.reverse_cons, List.map_append, List.flatten_append, h1]; simp [tx]
    have hB : total + (tx (f c)).length = ((pre ++ [c]).flatMap f).length := by rw [h2, tx_len]; simp
    cases fast with
    | false =>
      simp only [Bool.false_eq_true, if_false]
      refine wpAny_bind (tabLook hl hcl hvc (fun tk₂ => ?_))
      exact wpAny_pure ⟨⟨tk₂, rfl⟩, hA, hB, h3, rfl⟩
    | true =>
      simp only [if_true]
      cases hk : known.lookup c with
      | some a =>
        obtain ⟨d, rfl, hfd⟩ := h3 c a hk
        dsimp only
        refine wpAny_bind (wpAny_pure ?_)
        dsimp only
        have e1 : (⟨#[d]⟩ : Str) = tx (f c) := by rw [hfd]; rfl
        rw [e1]
        exact wpAny_pure ⟨⟨tk', rfl⟩, hA, by rw [← hB, hfd]; rfl, h3, rfl⟩
      | none =>
        dsimp only
        refine wpAny_bind (tabLook hl hcl hvc (fun tk₂ => ?_))
        dsimp only
        by_cases hone : ((tx (f c)).length == 1 && (tx (f c)).cps.all fun x => decide (x < 128)) = true
        · rw [if_pos hone]
          simp only [Bool.and_eq_true, beq_iff_eq] at hone
          obtain ⟨d, hfd⟩ : ∃ d, f c = [d] := by
            have := hone.1; rw [tx_len] at this
            exact List.length_eq_one_iff.mp this
          have e1 : (⟨#[d]⟩ : Str) = tx (f c) := by rw [hfd]; rfl
          have e2 : (tx (f c)).cps[0]? = some d := by rw [hfd]; rfl
          rw [e2]
          dsimp only
          refine wpAny_bind (wpAny_pure ?_)
          dsimp only
          rw [e1]
          refine wpAny_pure ⟨⟨tk₂, rfl⟩, hA, by rw [← hB, hfd]; rfl, fun c' a' hl' => ?_, rfl⟩
          rw [List.lookup_cons] at hl'
          split at hl'
          · rename_i hb'
            have := beq_iff_eq.mp hb'
            subst this
            cases hl'; exact ⟨d, rfl, hfd⟩
          · exact h3 c' a' hl'
        · rw [if_neg hone]
          dsimp only
          refine wpAny_bind (wpAny_pure ?_)
          dsimp only
          refine wpAny_bind (wpAny_rule ?_)
          refine wpAny_bind (tabLook hl hcl hvc (fun tk₃ => ?_))
          exact wpAny_pure ⟨⟨tk₃, rfl⟩, hA, hB, h3, rfl⟩
  · exact ⟨⟨tk, rfl⟩, rfl, rfl, fun _ _ h => by simp at h, rfl⟩
  · rintro ⟨pieces, total, fast, known, ad⟩ s' ⟨⟨tk', rfl⟩, h1, h2, h3, h4⟩
    dsimp only at h1 h2 h3 h4 ⊢
    rw [if_neg (by rw [hT total (by rw [h2]; exact hz)]; exact Bool.false_ne_true)]
    have e1 : (⟨pieces.reverse.foldl (fun acc p => acc ++ p.cps) #[]⟩ : Str) = tx (l.flatMap f) := by
      have key : ∀ (ps : List Str) (acc : Array Nat), (ps.foldl (fun acc p => acc ++ p.cps) acc).toList = acc.toList ++ (ps.map (·.cps.toList)).flatten := by
        intro ps
        induction ps with
        | nil => intro acc; simp
        | cons p ps ih => intro acc; rw [List.foldl_cons, ih]; simp
      have := key pieces.reverse #[]
      rw [h1] at this
      show Str.mk _ = Str.mk _
      congr 1
      apply Array.toList_inj.mp
      rw [this]; simp
    rw [e1]
    exact wpAny_bind (wpAny_mkStr (hx := by rw [tx_len]; show _ ≤ 16777216; omega) (wpAny_pure ⟨_, rfl, q _ _⟩))
end

-- Nb6
/-- texts of one sign each -/
noncomputable abbrev Chars (vs : List Value) (cs : List Nat) : Prop := StrsAre vs (cs.map fun c => tx [c])
theorem Chars.item {vs : List Value} {cs : List Nat} (h : Chars vs cs) {i : Nat} {v : Value} (hv : vs[i]? = some v) : ∃ c t, v = .str (tx [c]) t ∧ cs[i]? = some c := by
  obtain ⟨y, t, rfl, hy⟩ := StrsAre.item h i v hv
  rw [List.getElem?_map] at hy
  cases hc : cs[i]? with
  | none => rw [hc] at hy; cases hy
  | some c => rw [hc] at hy; cases hy; exact ⟨c, t, rfl, rfl⟩
theorem Chars.snoc {vs : List Value} {cs : List Nat} {c : Nat} {t : Tok} (h : Chars vs cs) : Chars (vs ++ [.str (tx [c]) t]) (cs ++ [c]) := by
  show StrsAre _ ((cs ++ [c]).map _)
  rw [List.map_append]
  exact StrsAre.append' h (.cons _ _ .nil)
theorem Chars.length {vs : List Value} {cs : List Nat} (h : Chars vs cs) : vs.length = cs.length := by
  rw [StrsAre.len_eq h, List.length_map]

/-- lines of signs, as objects; the newest first -/
inductive ObIs : List (Addr × Obj) → List (List Nat) → Prop
  | nil : ObIs [] []
  | cons {a : Addr} {vs : List Value} {k : Nat} {cs : List Nat} {r : List (Addr × Obj)} {rs : List (List Nat)} : Chars vs cs → ObIs r rs → ObIs ((a, listOf vs.toArray k) :: r) (cs :: rs)
theorem ObIs.len {ob : List (Addr × Obj)} {ls : List (List Nat)} (h : ObIs ob ls) : ob.length = ls.length := by
  induction h with
  | nil => rfl
  | cons _ _ ih => simp [ih]
set_option maxRecDepth 100000 in
set_option maxHeartbeats 4000000 in
theorem lines_spec {w : World} {A : Around} {s : Shared} {h : Heap} {tk : Nat} {l : Addr} {vs : List Value} {cs : List Nat} {Q : Value → Shared → Prop} {E : Value → Shared → Prop} (G : Gd w h) (am : Am A 1)
    (hl : h.IsList l vs.toArray) (hi : Chars vs cs) (hn : cs.length ≤ 1000)
    (q : ∀ h' tk r k ob, (∀ b o, h.get? b = some o → h'.get? b = some o) → (∀ p ∈ (r, listOf (ob.map fun p => Value.ref p.1).reverse.toArray k) :: ob, h'.get? p.1 = some p.2 ∧ h.get? p.1 = none) →
      (((r, listOf (ob.map fun p => Value.ref p.1).reverse.toArray k) :: ob).map (·.1)).Nodup → ObIs ob (lnFold cs).1 → Q (.ref r) (Sh s h' tk)) :
    wpAny (model prg w) A (call (.ref 126) [.ref l]) Q E (Sh s h tk) := by
  refine callD (binds := [(Str.ofString "signs", .ref l)]) G (by rfl) (by rfl) am.dp (BindsTo.of_eq rfl) (locs rfl) (fun h₁ tk₁ S => ?_) rfl rfl rfl (by decide)
  repeat walk_at "m:s"
  rename_i l0 h2 S2 ll h3 S3 h4 S4 h5 S5
  refine seq_any (For_invV h rfl rfl ?_ (hE := PassesOwn.never))
  walk_at "m:s"
  refine iter_list (fun i m nw => m (Str.ofString "lines") = some (.ref ll) ∧ (∃ t, m (Str.ofString "before") = some (.str (tx (lnFold (cs.take i)).2) t)) ∧
    ∃ k ob, nw = (ll, listOf (ob.map fun p => Value.ref p.1).reverse.toArray k) :: ob ∧ ObIs ob (lnFold (cs.take i)).1) am.hh (stays_list S5.F.keep hl) S5 ?_ (.inl (let ⟨o, ho, _⟩ := hl; ⟨o, ho⟩)) ?_ ?_
  · exact ⟨lk_ne (by decide) lk_eq, ⟨_, lk_eq⟩, 0, [(l0, listOf #[] 0)], rfl, .cons (vs := []) .nil .nil⟩
  · rintro i v m₁ news₁ h₆ tk₆ it hv ⟨hf, ⟨tb, hbf⟩, k, ob, rfl, hob⟩ S
    obtain ⟨c, tc, rfl, hc⟩ := hi.item hv
    have hstep : lnFold (cs.take (i + 1)) = lnStep (lnFold (cs.take i)) c := by rw [List.take_add_one, hc]; exact lnFold_snoc _ _
    obtain ⟨n1, n2, n3⟩ := lnFold_ne (cs.take i)
    have hti : (cs.take i).length ≤ 1000 := by rw [List.length_take]; omega
    generalize hst : lnFold (cs.take i) = st at *
    obtain ⟨ls, b⟩ := st
    dsimp only at *
    cases hob with
    | nil => exact absurd rfl n1
    | @cons a vsL kL csL r rs hch hr =>
    have hrl := hr.len
    simp only [List.length_cons] at n2
    have hvl : vsL.length ≤ 1000 := by rw [hch.length]; exact Nat.le_trans (n3 csL (.head _)) hti
    walk_at "m:s"
    refine cutB (decide (c = 13 ∨ (c = 10 ∧ b ≠ [13]))) ?_ (fun tk₇ => ?_)
    · repeat' (first | walk_at "m:s" | with_reducible refine iteD (fun _ => ?_) (fun _ => ?_))
      all_goals exact ⟨by simp_all, _, rfl⟩
    · refine iteD (fun h1 => ?_) (fun h1 => ?_)
      · repeat walk_at "m:s"
        rename_i ln h8 S8 h9 S9 h10 S10
        refine TurnEnd.next (St.swap1 (St.swap S10)) ⟨?_, ⟨tc, ?_⟩, k + 1, (ln, listOf #[] 0) :: (a, listOf vsL.toArray kL) :: r, ?_, ?_⟩
        · walk_at "m:lk"
        · rw [hstep]; exact lk_eq
        · congr 2
          simp [List.push_toArray]
        · rw [hstep, lnStep, if_pos h1]; exact .cons (vs := []) .nil (.cons hch hr)
      · repeat walk_at "m:s"
        refine iteD (fun h2 => ?_) (fun h2 => ?_)
        · repeat walk_at "m:s"
          refine lLast (v := .ref a) ⟨_, S.get (.tail _ (.head _)), rfl, k, rfl⟩ (by decide) (by decide) (by simp; omega) ?_ ?_ (by rfl)
          · simp
            rw [show (-1 + ((r.length : Int) + 1)).toNat = r.length by omega, List.getElem?_append_right (by simp)]
            simp
          repeat walk_at "m:s"
          rename_i h8 S8 h9 S9
          refine TurnEnd.next S9 ⟨?_, ⟨tc, ?_⟩, k, (a, listOf (vsL ++ [Value.str (tx [c]) tc]).toArray (kL + 1)) :: r, ?_, ?_⟩
          · walk_at "m:lk"
          · rw [hstep]; exact lk_eq
          · simp [List.push_toArray]
          · rw [hstep, lnStep, if_neg h1, if_pos (by simpa using h2)]; exact .cons hch.snoc hr
        · repeat walk_at "m:s"
          refine TurnEnd.next (by assumption) ⟨?_, ⟨tc, ?_⟩, k, (a, listOf vsL.toArray kL) :: r, rfl, ?_⟩
          · walk_at "m:lk"
          · rw [hstep]; exact lk_eq
          · rw [hstep, lnStep, if_neg h1, if_neg (by simpa using h2)]; exact .cons hch hr
  · rintro m₁ news₁ h' tk ⟨hf, _, k, ob, rfl, hob⟩ S
    rw [hi.length, List.take_length] at hob
    repeat walk_at "m:s"
    exact q h' _ ll k ob S.F.keep (fun p hp => ⟨(S.N p hp).1, (S.N p hp).2.2⟩) S.D hob

-- NbC
section
variable {w : World} {A : Around} {E : Value → Shared → Prop} {s : Shared} {h : Heap} {tk : Nat} {h₀ : Heap} {L D f : Addr} {m : Str → Option Value} {news news' : List (Addr × Obj)} {Q : Value → Shared → Prop} {prog : Program} {env : Env} {M : Model} {pos : Pos}
theorem callK {e : Expr} {rest : List Expr} (G : Gd w h₀) (hk : keepIn (KK w) (.ref f) = true) (q : wpAny M A (spliced (backTo pos (starEach (e :: rest) env))) (fun vs s₁ => (KK w).In s₁.heap ∧ wpAny M A (call (.ref f) vs) Q E s₁) E s)
    (he : starEach (e :: rest) env = (false, eval e env) :: starEach rest env) (hplain : (backTo pos (starEach rest env)).any (·.1) = false) :
    wpAny M A (callWith pos (.ref f) [] (backTo pos (starEach (e :: rest) env)) []) Q E s := callWith_K G.k hk q he hplain
theorem inK {P : Prop} (G : Gd w h₀) (S : St h₀ L h m news) (q : P) : (KK w).In (Sh s h tk).heap ∧ P := ⟨G.k.keeps S.F.keep, q⟩
theorem seq_AugSub {rest : List Stmt} {o i value : Expr} {tpos : Pos} {op : Operator} {Q : Flow → Shared → Prop}
    (q : wpAny M A (eval o env) (fun ov s₁ => wpAny M A (eval i env) (fun iv s₂ => wpAny M A (getItem ov iv) (fun old s₃ =>
          wpAny M A (eval value env) (fun v s₄ => wpAny M A (inplaceOp op old v) (fun new s₅ =>
            wpAny M A (setItem ov iv new) (fun _ s₆ => wpAny M A (execs rest env) Q E s₆) E s₅) E s₄) E s₃) E s₂) E s₁) E s)
    (hi : ∀ ov iv new, augStore i ov iv new = (do holding [new, ov, iv] (setItem ov iv new); release [new, ov, iv] []; pure .next)) :
    wpAny M A (execs (.AugAssign (.Subscript o i tpos) op value pos :: rest) env) Q E s := wpAny_execs_cons (wpAny_AugAssign_SubscriptAny q hi)
theorem seq_SetSub {rest : List Stmt} {o i value : Expr} {pos' : Pos} {Q : Flow → Shared → Prop}
    (q : wpAny M A (eval value env) (fun v s₁ => wpAny M A (eval o env) (fun ov s₂ => wpAny M A (eval i env) (fun iv s₃ =>
      wpAny M A (setItem ov iv v) (fun _ s₄ => wpAny M A (execs rest env) Q E s₄) E s₃) E s₂) E s₁) E s)
    (hs : swapsWith value (some (.Subscript o i pos')) pos.line env = pure false) :
    wpAny M A (execs (.Assign [.Subscript o i pos'] value pos :: rest) env) Q E s := wpAny_execs_cons (wpAny_Assign_Subscript q hs)
theorem gNeg {its : Array Value} {k : Int} {n : Nat} {t : Tok} {v : Value} (S : St h₀ L h m news) (hm : (D, listOf its n) ∈ news) (hk : k < 0) (hk2 : -(2 ^ 63) ≤ k) (hk3 : 0 ≤ k + its.size) (hx : its[(k + its.size).toNat]? = some v) (q : Q v (Sh s h tk)) :
    wpAny (model prog w) A (getItem (.ref D) (.int k t)) Q E (Sh s h tk) := wpAny_getItem_list_neg (s := Sh s h tk) ⟨_, S.get hm, rfl, n, rfl⟩ hk (by omega) hk2 hx q
theorem setNeg {its : Array Value} {k : Int} {n j : Nat} {t : Tok} {v : Value} {Q : Unit → Shared → Prop} (S : St h₀ L h m news) (U : Up D (listOf its n) (listOf (its.setIfInBounds j v) n) news news') (hk : k < 0) (hk2 : -(2 ^ 63) ≤ k) (hk3 : 0 ≤ k + its.size) (hj : (k + its.size).toNat = j)
    (q : ∀ h', St h₀ L h' m news' → Q () (Sh s h' tk)) : wpAny (model prog w) A (setItem (.ref D) (.int k t) v) Q E (Sh s h tk) := by
  have ho : (Sh s h tk).heap.get? D = some (listOf its n) := S.get U.mem
  have hl : (Sh s h tk).heap.IsList D its := ⟨_, ho, rfl, n, rfl⟩
  have hd : (listOf its n).data = .seq its n := rfl
  unfold setItem
  try with_reducible refine wpAny_holding ?_
  first | refine wpAny_bind (wpAny_pure ?_) | skip
  refine wpAny_bind (wpAny_sequenceKey hl.typeIs (by decide) ?_)
  refine wpAny_bind (wpAny_callSpecial?_slot (name := Str.ofString "__setitem__") hl.typeIs slot_list_setitem
    (wpAny_call_entry slot_list_setitem hl.typeIs entry_list_setitem ?_ (args_list_setitem _ _ _)))
  show wpAny _ _ (Builtin.List.listSubscript? (.int k t) >>= _) _ _ _
  refine wpAny_bind (wpAny_listSubscript_int (fitsIndex_neg hk hk2) ?_)
  have hidx : seqIndex? k its.size = some j := by rw [seqIndex_neg hk (by omega), hj]
  have hlt : j < its.size := by omega
  have hx : its[j]? = some its[j] := Array.getElem?_eq_getElem hlt
  obtain ⟨i, rfl⟩ : ∃ i : Nat, k = Int.negSucc i := by
    cases k with
    | ofNat n => exact absurd hk (Int.not_lt.mpr (Int.ofNat_nonneg n))
    | negSucc n => exact ⟨n, rfl⟩
  show wpAny _ _ ((Builtin.List.listItems (.ref D) >>= fun xs => pure ((seqIndex? (Int.negSucc i) xs.size).bind fun i => xs[i]?.map (i, ·))) >>= _) _ _ _
  refine wpAny_bind (wpAny_bind ?_)
  show wpAny _ _ (seqItems? (.ref D) >>= _) _ _ _
  refine wpAny_bind (wpAny_seqItems ho hd (wpAny_pure (wpAny_pure ?_)))
  rw [hidx]
  simp only [Option.bind_some, hx, Option.map_some]
  have fin : Q () { Sh s h tk with heap := (Sh s h tk).heap.update D (Obj.mapSeq (·.setIfInBounds j v)) } := by
    refine q _ (S.set U (Heap.SameBut.update ..) ?_)
    have e : Obj.mapSeq (·.setIfInBounds j v) (listOf its n) = listOf (its.setIfInBounds j v) n := by
      simp [Obj.mapSeq]
    rw [← e]
    exact Heap.get?_update_self _ ho (by rw [e]; rfl)
  refine wpAny_bind (wpAny_setSeqItemAt ho hd ?_)
  first
    | exact wpAny_bind (wpAny_pure (wpAny_pure ⟨.none, rfl, wpAny_pure fin⟩))
    | exact wpAny_pure ⟨.none, rfl, wpAny_pure fin⟩
end

-- NbD
/-- what a slice by ones takes -/
noncomputable def cut {α : Type} (l : List α) (lo hi : Option Int) : List α := (l.drop (lo.elim 0 (clipAt l.length))).take (hi.elim l.length (clipAt l.length) - lo.elim 0 (clipAt l.length))
theorem idx_plain (lo hi : Option Int) (n : Nat) : Builtin.Str.strSliceIndices lo hi 1 n = sliceRange ((lo.elim 0 (clipAt n) : Nat) : Int) ((hi.elim n (clipAt n) : Nat) : Int) 1 := by
  unfold Builtin.Str.strSliceIndices
  cases lo <;> cases hi <;> simp [clipAt_cast]
theorem pickN (l : List Nat) (a b : Nat) : (((List.range (b - a)).map fun k => a + k).filterMap fun i => l.toArray[i]?) = (l.drop a).take (b - a) := by
  have key : ∀ (n a : Nat), (((List.range n).map fun k => a + k).filterMap fun i => l.toArray[i]?) = (l.drop a).take n := by
    intro n
    induction n with
    | zero => intro a; simp
    | succ n ih =>
      intro a
      rw [List.range_succ, List.map_append, List.filterMap_append, ih, List.take_add_one]
      congr 1
      simp
      cases h : l[a + n]? <;> simp [h]
  exact key _ _
theorem txSlice (a : List Nat) (lo hi : Option Int) : Txt.slice (tx a) lo hi = tx (cut a lo hi) := by
  have hr : Builtin.Str.strSliceIndices lo hi 1 (tx a).length = (List.range (hi.elim a.length (clipAt a.length) - lo.elim 0 (clipAt a.length))).map fun k => lo.elim 0 (clipAt a.length) + k := by
    rw [idx_plain, tx_len]
    generalize lo.elim 0 (clipAt a.length) = x
    generalize hi.elim a.length (clipAt a.length) = y
    unfold sliceRange
    simp only [show (1 : Int) > 0 by decide, if_true]
    have : (if (x : Int) < y then ((y : Int) - x + 1 - 1) / 1 else 0).toNat = y - x := by split <;> omega
    rw [this]
    apply List.map_congr_left
    intro k _; omega
  unfold Txt.slice
  rw [hr]
  split
  · rename_i hlen
    simp only [beq_self_eq_true, Bool.true_and, List.length_map, List.length_range, beq_iff_eq] at hlen
    rw [tx_len] at hlen
    have h1 : hi.elim a.length (clipAt a.length) ≤ a.length := by
      cases hi with
      | none => exact Nat.le_refl _
      | some j => have := clipAt_cast a.length j; show clipAt a.length j ≤ a.length; omega
    have h2 : lo.elim 0 (clipAt a.length) = 0 ∨ a.length = 0 := by omega
    rw [tx_inj]
    unfold cut
    rw [hlen]
    rcases h2 with h2 | h2
    · rw [h2]; simp
    · have : a = [] := List.length_eq_zero_iff.mp h2
      subst this; simp
  · show Str.mk _ = Str.mk _
    congr 2
    exact pickN a _ _

/-- a slice is made and used -/
noncomputable def SlEnd (M : Model) (A : Around) (value slice : Expr) (o l u : Value) (Q : Value → Shared → Prop) (E : Value → Shared → Prop) (s : Shared) : Prop :=
  wpAny M A (subscriptTail value slice o (.ref s.heap.objs.size)) Q E { s with heap := s.heap.push { cls := .type "slice", data := .fields #[l, u, .none] } }
section
variable {w : World} {A : Around} {E : Value → Shared → Prop} {s : Shared} {h : Heap} {tk : Nat} {h₀ : Heap} {L D : Addr} {m : Str → Option Value} {news news' : List (Addr × Obj)} {Q : Value → Shared → Prop} {prog : Program} {env : Env} {M : Model} {pos p : Pos} {value slice : Expr} {a : List Nat} {t : Tok} {vl vu : Value} {lo hi : Option Int}
theorem Sub_Slice {lower upper : Option Expr} (q : wpAny M A (eval value env) (fun o s₁ => wpAny M A (evalPart lower env) (fun l s₂ => wpAny M A (evalPart upper env) (fun u s₃ => SlEnd M A value (.Slice lower upper none p) o l u Q E s₃) E s₂) E s₁) E s) :
    wpAny M A (eval (.Subscript value (.Slice lower upper none p) pos) env) Q E s :=
  Subscript_ (wpAny_mono q (fun o s₁ h₁ => wpAny_Slice (wpAny_mono h₁ (fun l s₂ h₂ => wpAny_mono h₂ (fun u s₃ h₃ => wpAny_pure h₃) fun _ _ x => x) fun _ _ x => x)) fun _ _ x => x)
theorem part_none {Q : Value → Shared → Prop} (q : Q .none s) : wpAny M A (evalPart none env) Q E s := wpAny_pure q
theorem part_some {e : Expr} {Q : Value → Shared → Prop} (q : wpAny M A (eval e env) Q E s) : wpAny M A (evalPart (some e) env) Q E s := q
theorem slT (S : St h₀ L h m news) (pl : IsPart vl lo) (pu : IsPart vu hi) (hz : a.length ≤ 16777216) (q : ∀ h' t' tk', St h₀ L h' m news → Q (.str (tx (cut a lo hi)) t') (Sh s h' tk'))
    (hs : ∀ x, subscripted slice false (.str (tx a) t) (.ref x) = operate [.ref x, .str (tx a) t] (getItem (.str (tx a) t) (.ref x))) (ht : ∀ r, letTemporaryGo value (.str (tx a) t) r = pure ()) :
    SlEnd (model prog w) A value slice (.str (tx a) t) vl vu Q E (Sh s h tk) := by
  have hz' : (tx a).length ≤ sizeLine := by rw [tx_len]; exact hz
  have q' : ∀ h' t' k, Fr h₀ L h' m → News h₀ L h' news → Q (.str (Txt.slice (tx a) lo hi) t') { Sh s h tk with heap := h', toks := k } := fun h' t' k F N => by
    rw [txSlice]; exact q h' t' k ⟨F, N, S.D⟩
  cases pl with
  | none => cases pu with
    | none => exact slice_strN_nn (s := Sh s h tk) S.F S.N q' (hs _) ht hz'
    | int j uj => exact slice_strN_ns (s := Sh s h tk) S.F S.N q' (hs _) ht hz'
  | int i ui => cases pu with
    | none => exact slice_strN_sn (s := Sh s h tk) S.F S.N q' (hs _) ht hz'
    | int j uj => exact slice_strN_ss (s := Sh s h tk) S.F S.N q' (hs _) ht hz'
theorem slL {l : Addr} {vs : List Value} (S : St h₀ L h m news) (hl : h.IsList l vs.toArray) (pl : IsPart vl lo) (pu : IsPart vu hi) (hz : vs.length ≤ 16777216) (q : ∀ d h', St h₀ L h' m ((d, listOf (cut vs lo hi).toArray 0) :: news) → Q (.ref d) (Sh s h' tk))
    (hs : ∀ x, subscripted slice false (.ref l) (.ref x) = operate [.ref x, .ref l] (getItem (.ref l) (.ref x))) (ht : ∀ r, letTemporaryGo value (.ref l) r = pure ()) :
    SlEnd (model prog w) A value slice (.ref l) vl vu Q E (Sh s h tk) := by
  have e : slicePick vs.toArray lo hi none = (cut vs lo hi).toArray := by
    rw [slicePick_plain]; simp [cut]
  refine subscriptTail_ops (Heap.IsList.typeIs (s := { Sh s h tk with heap := h.push { cls := .type "slice", data := .fields #[vl, vu, .none] } }) (hl.push _)) list_getitem_lookup
    (wpAny_getItem_list_slice (hl.push _) (Heap.IsSliceOf.new ..) pl pu .none (by simp) ?_ (by rw [List.size_toArray]; exact hz)) (hs _) ht
  rw [e]
  have S1 := S.stay (h' := h.push { cls := .type "slice", data := .fields #[vl, vu, .none] }) fun _ _ e => Heap.get?_push_of_some _ e
  exact q _ _ (S1.one (o := listOf (cut vs lo hi).toArray 0) (fun _ _ e => Heap.get?_push_of_some _ e) (Heap.get?_push_size _ rfl) (fresh_size _))
theorem lAdd {l b : Addr} {vs ws : List Value} (S : St h₀ L h m news) (hl : h.IsList l vs.toArray) (hb : h.IsList b ws.toArray) (hz : vs.length + ws.length ≤ 16777216) (q : ∀ d h', St h₀ L h' m ((d, listOf (vs ++ ws).toArray 0) :: news) → Q (.ref d) (Sh s h' tk)) :
    wpAny (model prog w) A (binaryOp .Add (.ref l) (.ref b)) Q E (Sh s h tk) :=
  add_lists (s := Sh s h tk) S.F S.N hl hb (fun h' F' N' => q _ h' ⟨F', N', by
    rw [List.map_cons, List.nodup_cons]
    refine ⟨fun hm => ?_, S.D⟩
    obtain ⟨p, hp, e⟩ := List.mem_map.mp hm
    have := Heap.lt_size (S.N p hp).1
    exact absurd (e ▸ this) (Nat.lt_irrefl _)⟩) hz
theorem lNeNil {l b : Addr} {vs : List Value} (hl : h.IsList l vs.toArray) (hb : h.IsList b #[]) (hu : A.units < cLine) (q : Q (.bool (decide (vs ≠ []))) (Sh s h tk)) :
    wpAny (model prog w) A (compareOp .NotEq (.ref l) (.ref b)) Q E (Sh s h tk) := by
  cases vs with
  | nil =>
    refine SeqAt.RcNeAt.lists (s := Sh s h tk) (e := fun _ => true) hl hb rfl hu (fun j h1 _ => absurd h1 (by simp)) prog w E Q ?_
    simpa using q
  | cons v r =>
    refine SeqAt.RcNeAt.lists_lengths (s := Sh s h tk) hl hb (by simp) hu prog w E Q ?_
    simpa using q
end

-- NbE
theorem mapSeq_of {f : Array Value → Array Value} {xs ys : Array Value} {n : Nat} (e : f xs = ys) : Obj.mapSeq f (listOf xs n) = listOf ys (if ys.size == xs.size then n else n + 1) := by subst e; rfl
section
variable {w : World} {A : Around} {E : Value → Shared → Prop} {s : Shared} {h : Heap} {tk : Nat} {h₀ : Heap} {L D sl nl : Addr} {m : Str → Option Value} {news news' : List (Addr × Obj)} {prog : Program}
theorem cutS {M : Model} {c : Sem Bool} {Q : Bool → Shared → Prop} (_S : St h₀ L h m news) (P : Bool)
    (h1 : wpAny M A c (fun b s' => b = P ∧ ∃ h' tk', s' = Sh s h' tk' ∧ St h₀ L h' m news) NoE (Sh s h tk)) (h2 : ∀ h' tk', St h₀ L h' m news → Q P (Sh s h' tk')) : wpAny M A c Q E (Sh s h tk) :=
  wpAny_mono h1 (fun b s' x => by obtain ⟨rfl, h', tk', rfl, S⟩ := x; exact h2 h' tk' S) fun _ _ e => e.elim
/-- the ways of an if meet -/
noncomputable def Nx (P : Shared → Prop) : Flow → Shared → Prop := fun f s' => f = .next ∧ P s'
theorem Nx.next {P : Shared → Prop} {s : Shared} (q : P s) : Nx P .next s := ⟨rfl, q⟩
theorem seq_If_join {M : Model} {env : Env} {rest : List Stmt} {test : Expr} {body orelse : List Stmt} {pos : Pos} {s : Shared} {Q : Flow → Shared → Prop} (P : Shared → Prop)
    (q : wpAny M A (isTrue test env (eval test env)) (fun b s₂ => if b then wpAny M A (execs body env) (Nx P) NoE s₂ else wpAny M A (execs orelse env) (Nx P) NoE s₂) NoE s)
    (hP : ∀ s', P s' → wpAny M A (execs rest env) Q E s') : wpAny M A (execs (.If test body orelse pos :: rest) env) Q E s := by
  refine seq_If (wpAny_mono q (fun b s₂ h₂ => ?_) fun _ _ e => e.elim)
  have go : ∀ st, wpAny M A (execs st env) (Nx P) NoE s₂ → wpAny M A (execs st env) (Cont M A rest env Q E) E s₂ := fun st hx =>
    wpAny_mono hx (fun f s' hf => by obtain ⟨rfl, hp⟩ := hf; exact hP s' hp) fun _ _ e => e.elim
  cases b with
  | true => exact go _ h₂
  | false => exact go _ h₂
theorem apl {vs : List Value} {k : Nat} {x : Value} {Q : Value → Shared → Prop} (S : St h₀ L h m news) (U : Up D (listOf vs.toArray k) (listOf (vs ++ [x]).toArray (k + 1)) news news')
    (q : ∀ h', St h₀ L h' m news' → Q .none (Sh s h' tk)) (hsz : vs.length ≤ 1000000) : wpAny (model prog w) A (call (.builtin "list.append") ([.ref D] ++ [x])) Q E (Sh s h tk) :=
  apnd S (by rw [List.push_toArray]; exact U) q (by rw [List.size_toArray]; show _ ≤ 16777216; omega)
theorem last1 {value slice : Expr} {vs : List Value} {k : Nat} {v : Value} {u : Tok} {Q : Value → Shared → Prop} (S : St h₀ L h m news) (hm : (D, listOf (vs ++ [v]).toArray k) ∈ news) (q : Q v (Sh s h tk))
    (hs : subscripted slice false (.ref D) (.int (-1) u) = operate [.ref D, .int (-1) u] (getItem (.ref D) (.int (-1) u))) :
    wpAny (model prog w) A (subscriptTail value slice (.ref D) (.int (-1) u)) Q E (Sh s h tk) :=
  lLast ⟨_, S.get hm, rfl, k, rfl⟩ (by decide) (by decide) (by simp; omega) (by
    simp
    rw [show (-1 + ((vs.length : Int) + 1)).toNat = vs.length by omega]; simp) q hs
theorem lastB {value slice : Expr} {l : Addr} {vs : List Value} {v : Value} {u : Tok} {Q : Value → Shared → Prop} (hl : h.IsList l (vs ++ [v]).toArray) (q : Q v (Sh s h tk))
    (hs : subscripted slice false (.ref l) (.int (-1) u) = operate [.ref l, .int (-1) u] (getItem (.ref l) (.int (-1) u))) :
    wpAny (model prog w) A (subscriptTail value slice (.ref l) (.int (-1) u)) Q E (Sh s h tk) :=
  lLast hl (by decide) (by decide) (by simp; omega) (by
    simp
    rw [show (-1 + ((vs.length : Int) + 1)).toNat = vs.length by omega]; simp) q hs
theorem lLen {vs : List Value} {k : Nat} {Q : Value → Shared → Prop} (S : St h₀ L h m news) (hm : (D, listOf vs.toArray k) ∈ news) (hz : vs.length ≤ 1000000) (q : Q (.int (vs.length : Nat) (tk + 1)) (Sh s h (tk + 1 + 1))) :
    wpAny (model prog w) A (call (.builtin "len") [.ref D]) Q E (Sh s h tk) :=
  Calls.call_len_list (s := Sh s h tk) ⟨_, S.get hm, rfl, k, rfl⟩ (by rw [List.size_toArray]; omega) (by rw [List.size_toArray]; exact q)
theorem last2 {value slice : Expr} {vs : List Value} {k : Nat} {v v2 : Value} {u : Tok} {Q : Value → Shared → Prop} (S : St h₀ L h m news) (hm : (D, listOf (vs ++ [v, v2]).toArray k) ∈ news) (q : Q v (Sh s h tk))
    (hs : subscripted slice false (.ref D) (.int (-2) u) = operate [.ref D, .int (-2) u] (getItem (.ref D) (.int (-2) u))) :
    wpAny (model prog w) A (subscriptTail value slice (.ref D) (.int (-2) u)) Q E (Sh s h tk) :=
  lLast ⟨_, S.get hm, rfl, k, rfl⟩ (by decide) (by decide) (by simp; omega) (by
    simp
    rw [show (-2 + ((vs.length : Int) + 2)).toNat = vs.length by omega]; simp) q hs
theorem gLast1 {vs : List Value} {k : Nat} {v : Value} {u : Tok} {Q : Value → Shared → Prop} (S : St h₀ L h m news) (hm : (D, listOf (vs ++ [v]).toArray k) ∈ news) (q : Q v (Sh s h tk)) :
    wpAny (model prog w) A (getItem (.ref D) (.int (-1) u)) Q E (Sh s h tk) :=
  gNeg S hm (by decide) (by decide) (by simp; omega) (by
    simp
    rw [show (-1 + ((vs.length : Int) + 1)).toNat = vs.length by omega]; simp) q
theorem setLast1 {vs : List Value} {k : Nat} {v x : Value} {u : Tok} {Q : Unit → Shared → Prop} (S : St h₀ L h m news) (U : Up D (listOf (vs ++ [v]).toArray k) (listOf (vs ++ [x]).toArray k) news news')
    (q : ∀ h', St h₀ L h' m news' → Q () (Sh s h' tk)) : wpAny (model prog w) A (setItem (.ref D) (.int (-1) u) x) Q E (Sh s h tk) :=
  setNeg (j := vs.length) S (by
    have e : (vs ++ [v]).toArray.setIfInBounds vs.length x = (vs ++ [x]).toArray := by simp
    rw [e]; exact U) (by decide) (by decide) (by simp; omega) (by simp; omega) q
/-- the last two items of a list make room for one -/
theorem setLastTwo {pre : List Value} {a b x : Value} {n : Nat} {t : Tok} {Q : Unit → Shared → Prop} (S : St h₀ L h m news) (hs : h.IsSliceOf sl (.int (-2) t) .none .none) (hn : h.IsList nl #[x]) (hne : D ≠ nl)
    (U : Up D (listOf (pre ++ [a, b]).toArray n) (listOf (pre ++ [x]).toArray (n + 1)) news news') (hz : pre.length ≤ 1000000)
    (q : ∀ h', St h₀ L h' m news' → Q () (Sh s h' tk)) : wpAny (model prog w) A (setItem (.ref D) (.ref sl) (.ref nl)) Q E (Sh s h tk) := by
  have ho : (Sh s h tk).heap.get? D = some (listOf (pre ++ [a, b]).toArray n) := S.get U.mem
  have hl : (Sh s h tk).heap.IsList D (pre ++ [a, b]).toArray := ⟨_, ho, rfl, n, rfl⟩
  have hd : (listOf (pre ++ [a, b]).toArray n).data = .seq (pre ++ [a, b]).toArray n := rfl
  obtain ⟨os, hos, hcs, hds⟩ := id hs
  have hTs : (Sh s h tk).TypeIs (.ref sl) "slice" := ⟨os, hos, hcs⟩
  have hTn : (Sh s h tk).TypeIs (.ref nl) "list" := Heap.IsList.typeIs (s := Sh s h tk) hn
  obtain ⟨on, hon, hcn, nn, hdn⟩ := id hn
  unfold setItem
  try with_reducible refine wpAny_holding ?_
  first | refine wpAny_bind (wpAny_pure ?_) | skip
  refine wpAny_bind (wpAny_sequenceKey hl.typeIs (by decide) ?_)
  refine wpAny_bind (wpAny_callSpecial?_slot (name := Str.ofString "__setitem__") hl.typeIs slot_list_setitem
    (wpAny_call_entry slot_list_setitem hl.typeIs entry_list_setitem ?_ (args_list_setitem _ _ _)))
  show wpAny _ _ (Builtin.List.listSubscript? (.ref sl) >>= _) _ _ _
  refine wpAny_bind ?_
  unfold Builtin.List.listSubscript?
  refine wpAny_bind (wpAny_specialOf hTs slice_no_index ?_)
  simp only [Option.isNone_none, if_true]
  refine wpAny_pure ?_
  show wpAny _ _ (typeOf (.ref sl) >>= _) _ _ _
  refine wpAny_bind (wpAny_typeOf hTs ?_)
  rw [if_neg (by decide)]
  rw [listSliceParts_eq]
  refine wpAny_bind (wpAny_bind (wpAny_field hos hds (x := .none) rfl (wpAny_bind (wpAny_listPart .none ?_))))
  rw [if_neg (by decide)]
  refine wpAny_bind (wpAny_field hos hds (x := .int (-2) t) rfl (wpAny_bind (wpAny_listPart (.int _ _) ?_)))
  refine wpAny_bind (wpAny_field hos hds (x := .none) rfl (wpAny_bind (wpAny_listPart .none ?_)))
  refine wpAny_pure ?_
  dsimp only
  rw [if_neg (by
    show ¬ (Builtin.List.listSameRef (.ref D) (.ref nl) = true)
    simp only [Builtin.List.listSameRef, beq_iff_eq]
    exact hne)]
  refine wpAny_bind (m := Builtin.List.listAllItems (.ref nl) _) ?_
  unfold Builtin.List.listAllItems
  refine wpAny_bind (wpAny_typeOf hTn ?_)
  rw [if_pos (by decide)]
  unfold Builtin.List.listItems
  refine wpAny_bind (wpAny_seqItems hon hdn (wpAny_pure ?_))
  refine wpAny_bind (wpAny_bind (wpAny_seqItems ho hd (wpAny_pure ?_)))
  refine wpAny_bind (wpAny_of_eq (sliceIndices_raw (some (-2)) none none _ (by simp)) ?_)
  have hb : sliceBounds (some (-2)) none none (pre ++ [a, b]).toArray.size = ((pre.length : Int), ((pre.length + 2 : Nat) : Int), 1) := by
    rw [sliceBounds_plain]
    simp only [Option.elim]
    have e := clipAt_neg (pre ++ [a, b]).toArray.size 2 (by decide)
    have e2 : clipAt (pre ++ [a, b]).toArray.size (-2) = pre.length := by
      rw [show (-2 : Int) = -((2 : Nat) : Int) from rfl, e]; simp
    rw [e2]; simp
  rw [hb]
  dsimp only
  rw [if_pos (by decide)]
  refine wpAny_bind (wpAny_rule ?_)
  rw [if_neg (by
    simp only [Builtin.List.listTooLong, decide_eq_true_eq, List.size_toArray, List.length_append, List.length_cons, List.length_nil]
    show ¬ _ > 16777216
    simp; omega)]
  refine wpAny_bind ?_
  show wpAny _ _ (updateSeq D _) _ _ _
  have hf : (fun xs : Array Value => xs.extract 0 (pre.length : Int).toNat ++ #[x] ++ xs.extract (max (pre.length : Int) ((pre.length + 2 : Nat) : Int)).toNat xs.size) (pre ++ [a, b]).toArray = (pre ++ [x]).toArray := by
    have : (max (pre.length : Int) ((pre.length + 2 : Nat) : Int)).toNat = pre.length + 2 := by omega
    simp only [this, Int.toNat_natCast]
    apply Array.toList_inj.mp
    simp
  dsimp only at hf
  refine wpAny_updateSeq ho hd ?_ (by show _ ≤ 16777216; simp; omega) (by rw [hf]; show _ ≤ 16777216 + 1; simp; omega)
  refine wpAny_bind (wpAny_letGo (wpAny_pure ⟨_, rfl, wpAny_pure ?_⟩))
  refine q _ (S.set U (Heap.SameBut.update ..) ?_)
  have e : Obj.mapSeq (fun xs : Array Value => xs.extract 0 (pre.length : Int).toNat ++ #[x] ++ xs.extract (max (pre.length : Int) ((pre.length + 2 : Nat) : Int)).toNat xs.size) (listOf (pre ++ [a, b]).toArray n) = listOf (pre ++ [x]).toArray (n + 1) := by
    refine (mapSeq_of (f := fun xs : Array Value => xs.extract 0 (pre.length : Int).toNat ++ #[x] ++ xs.extract (max (pre.length : Int) ((pre.length + 2 : Nat) : Int)).toNat xs.size) (xs := (pre ++ [a, b]).toArray) (ys := (pre ++ [x]).toArray) hf).trans ?_
    rw [if_neg (by simp)]
  rw [← e]
  exact Heap.get?_update_self _ ho (by rw [e]; rfl)
theorem last2s {value slice : Expr} {vs : List Value} {k : Nat} {v v2 : Value} {u : Tok} {Q : Value → Shared → Prop} (S : St h₀ L h m news) (hm : (D, listOf (vs ++ [v] ++ [v2]).toArray k) ∈ news) (q : Q v (Sh s h tk))
    (hs : subscripted slice false (.ref D) (.int (-2) u) = operate [.ref D, .int (-2) u] (getItem (.ref D) (.int (-2) u))) :
    wpAny (model prog w) A (subscriptTail value slice (.ref D) (.int (-2) u)) Q E (Sh s h tk) := last2 S (by rw [List.append_assoc] at hm; exact hm) q hs
theorem setLastTwo_s {pre : List Value} {a b x : Value} {n : Nat} {t : Tok} {Q : Unit → Shared → Prop} (S : St h₀ L h m news) (hs : h.IsSliceOf sl (.int (-2) t) .none .none) (hn : h.IsList nl #[x]) (hne : D ≠ nl)
    (U : Up D (listOf (pre ++ [a] ++ [b]).toArray n) (listOf (pre ++ [x]).toArray (n + 1)) news news') (hz : pre.length ≤ 1000000)
    (q : ∀ h', St h₀ L h' m news' → Q () (Sh s h' tk)) : wpAny (model prog w) A (setItem (.ref D) (.ref sl) (.ref nl)) Q E (Sh s h tk) :=
  setLastTwo S hs hn hne (by rw [List.append_assoc] at U; exact U) hz q
/-- a slice is made -/
noncomputable def SlMk (l u : Value) (Q : Value → Shared → Prop) (s : Shared) : Prop := Q (.ref s.heap.objs.size) { s with heap := s.heap.push { cls := .type "slice", data := .fields #[l, u, .none] } }
theorem mkSlice {M : Model} {env : Env} {lower upper : Option Expr} {p : Pos} {s : Shared} {Q : Value → Shared → Prop} (q : wpAny M A (evalPart lower env) (fun l s₁ => wpAny M A (evalPart upper env) (fun u s₂ => SlMk l u Q s₂) E s₁) E s) :
    wpAny M A (eval (.Slice lower upper none p) env) Q E s :=
  wpAny_Slice (wpAny_mono q (fun _ _ h₂ => wpAny_mono h₂ (fun _ _ h₃ => wpAny_pure h₃) fun _ _ x => x) fun _ _ x => x)
theorem slMk {l u : Value} {Q : Value → Shared → Prop} (S : St h₀ L h m news) (q : ∀ d h', St h₀ L h' m ((d, { cls := .type "slice", data := .fields #[l, u, .none] }) :: news) → Q (.ref d) (Sh s h' tk)) : SlMk l u Q (Sh s h tk) :=
  q _ _ (S.one (fun _ _ e => Heap.get?_push_of_some _ e) (Heap.get?_push_size _ rfl) (fresh_size _))
end
local macro_rules | `(tactic| walk_at "m:l") => `(tactic| first
  | with_reducible refine mkSlice ?_
  | ((with_reducible refine' slMk ?sa ?sb); (case sa => with_reducible assumption); intro d' h' S)
  | ((with_reducible refine' apl ?sa ?sb ?sc ?sz); (case sa => with_reducible assumption); (case sb => walk_at "m:up"); (case sz => first | omega | (simp only [List.length_reverse, List.length_map, List.length_cons, List.length_nil, List.length_append]; omega)); intro h' S)
  | ((with_reducible refine' lLen ?sa ?sb ?sc ?sd); (case sa => with_reducible assumption); (case sb => walk_at "m:mem"); (case sc => (first | omega | (simp only [List.length_append, List.length_cons, List.length_nil]; omega))))
  | ((with_reducible refine' slT ?za ?zb ?zc ?zd ?ze ?zf ?zg); (case za => with_reducible assumption); (case zb => first | exact IsPart.none | exact IsPart.int _ _); (case zc => first | exact IsPart.none | exact IsPart.int _ _); (case zd => first | omega | (simp only [List.length_append, List.length_cons, List.length_nil]; omega)); (case zf => intro _; rfl); (case zg => intro _; rfl); intro h' t' tk' S)
  | ((with_reducible refine' last1 ?sa ?sb ?sc ?sz); (case sa => with_reducible assumption); (case sb => walk_at "m:mem"); (case sz => rfl))
  | ((with_reducible refine' last2s ?sa ?sb ?sc ?sz); (case sa => with_reducible assumption); (case sb => walk_at "m:mem"); (case sz => rfl))
  | ((with_reducible refine' gLast1 ?sa ?sb ?sc); (case sa => with_reducible assumption); (case sb => walk_at "m:mem"))
  | ((with_reducible refine' setLast1 ?sa ?sb ?sc); (case sa => with_reducible assumption); (case sb => walk_at "m:up"); intro h' S))

-- NbF
/-- the end of a comprehension's element -/
noncomputable def EltEnd (F : Value → Value → Prop) (v : Value) (s : Shared) (h : Heap) (y : Value) (s' : Shared) : Prop := F v y ∧ ∃ h' tk', s' = Sh s h' tk' ∧ ∀ b o, h.get? b = some o → h'.get? b = some o
theorem EltEnd.same {F : Value → Value → Prop} {v y : Value} {s : Shared} {h : Heap} {tk : Nat} (hF : F v y) : EltEnd F v s h y (Sh s h tk) := ⟨hF, h, tk, rfl, fun _ _ e => e⟩
theorem EltEnd.more {F : Value → Value → Prop} {v y : Value} {s : Shared} {h h' : Heap} {tk : Nat} (hF : F v y) (k : ∀ b o, h.get? b = some o → h'.get? b = some o) : EltEnd F v s h y (Sh s h' tk) := ⟨hF, h', tk, rfl, k⟩
/-- what a comprehension runs over -/
noncomputable def CompSrc (prog : Program) (w : World) (A : Around) (env : Env) (scope : Scope) (x : Str) (elt : Expr) (F : Value → Value → Prop) (Q : Value → Shared → Prop) (E : Value → Shared → Prop) (xv : Value) (s₁ : Shared) : Prop :=
  wpAny (model prog w) A (pyIter xv) (fun it s₂ => ∃ I fp wr n P St, it = .ref I ∧ Walks prog w A I fp wr n P St ∧ n ≤ sizeLine ∧ St 0 s₂.heap ∧ (∀ b ∈ fp, b < s₂.heap.objs.size) ∧
      QuietOn prog w A env scope x [] elt wr P (fun _ => true) F s₂ ∧
      (∀ D h' tk ys (vs : List Value), s₂.heap.get? D = none → h'.IsList D ys → h'.PlainList D ys → vs.length = n → (∀ j v, vs[j]? = some v → P j v) → Paired F (vs.filter fun _ => true) ys.toList →
        (∀ b o, b ∉ wr → s₂.heap.get? b = some o → h'.get? b = some o) → Q (.ref D) { s₂ with heap := h', toks := tk })) E s₁
section
variable {prog : Program} {w : World} {A : Around} {E : Value → Shared → Prop} {s : Shared} {h : Heap} {tk : Nat} {env : Env} {h₀ : Heap} {L : Addr} {m : Str → Option Value} {news : List (Addr × Obj)} {x : Str} {elt iter : Expr} {px pos : Pos} {scope : Scope} {Q : Value → Shared → Prop}
theorem compL (F : Value → Value → Prop) (q : wpAny (model prog w) A (eval iter env) (fun xv s₁ => CompSrc prog w A env scope x elt F Q E xv s₁) E s)
    (hfree : ∀ y ∈ scope.names, y.2 ≠ .free) (hcell : ∀ y ∈ scope.names, y.2 ≠ .cell) (hkind : scope.kind = .function)
    (hnames : ∀ y ∈ scope.names, y.2 = .local → scope.names.lookup y.1 = some .local) (hx : scope.names.lookup x = some .local) (hs : ∀ x, foldedSetIterable iter env x = pure x) :
    wpAny (model prog w) A (eval (.ListComp elt [⟨.Name x px, iter, [], 0⟩] scope pos) env) Q E s := wpAny_ListComp_walk (fun _ => true) F hfree hcell hkind hnames hx q hs
theorem Paired.all {α β : Type} {F : α → β → Prop} {l : List α} {l' : List β} (h : Paired F (l.filter fun _ => true) l') : Paired F l l' := by
  rwa [List.filter_eq_self.mpr (fun _ _ => rfl)] at h
theorem compList {l : Addr} {vs : List Value} {F : Value → Value → Prop} (hh : A.handled = none) (S : St h₀ L h m news) (hl : h.IsList l vs.toArray) (hz : vs.length ≤ 1000000)
    (turn : ∀ C v s₃ h' tk' mC, v ∈ vs → h'.Ns C mC → mC x = some v → (∀ b o, h.get? b = some o → h'.get? b = some o) → wpAny (model prog w) A (eval elt (compEnv scope C env)) (EltEnd F v s₃ h') NoE (Sh s₃ h' tk'))
    (done : ∀ d h' tk' ys k, St h₀ L h' m ((d, listOf ys.toArray k) :: news) → Paired F vs ys → Q (.ref d) (Sh s h' tk')) : CompSrc prog w A env scope x elt F Q E (.ref l) (Sh s h tk) := by
  obtain ⟨ol, hol, _⟩ := id hl
  have hne : l ≠ h.objs.size := Nat.ne_of_lt (Heap.lt_size hol)
  refine wpAny_pyIter_list (s := Sh s h tk) hl ?_
  have W := Walks.list (prog := prog) (w := w) hh h.objs.size l hne vs.toArray
  have pk : ∀ b o, h.get? b = some o → (h.push { cls := .type "list_iterator", data := .fields #[.ref l, .int 0 0] }).get? b = some o := fun _ _ e => Heap.get?_push_of_some _ e
  refine ⟨_, _, _, _, _, _, rfl, W, (by rw [List.size_toArray]; show _ ≤ 16777216; omega), ⟨⟨_, Heap.get?_push_size _ rfl, rfl, rfl⟩, hl.at fun o e => pk _ _ e⟩, ?_, ?_, ?_⟩
  · intro b hb
    show b < (h.push _).objs.size
    rw [Heap.size_push]
    rcases List.mem_cons.mp hb with e | hb
    · rw [e]; exact Nat.lt_succ_self _
    · rw [List.mem_singleton.mp hb]; exact Nat.lt_succ_of_lt (Heap.lt_size hol)
  · refine ⟨fun C i v s₃ m₃ E' _ _ _ _ _ => ?_, fun C i v s₃ m₃ E' hP _ hN hm hk _ => ?_⟩
    · exact wpAny_pure ⟨rfl, s₃.heap, s₃.toks, rfl, fun _ _ e => e⟩
    · have hv : v ∈ vs := List.mem_of_getElem? (by simpa using hP)
      refine wpAny_mono (turn C v s₃ s₃.heap s₃.toks m₃ hv hN hm (fun b o e => hk b o (fun hb => ?_) (pk b o e))) (fun y s₄ h₄ => ?_) fun _ _ e => e.elim
      · have := Heap.lt_size e
        rw [List.mem_singleton.mp hb] at this
        exact Nat.lt_irrefl _ this
      · obtain ⟨hF, h', tk', rfl, k⟩ := h₄
        exact ⟨hF, h', tk', rfl, k⟩
  · intro D h' tk' ys vs' hD _ hpl hlen hP hF hk
    have hvs : vs' = vs := by
      apply List.ext_getElem?
      intro j
      by_cases hj : j < vs'.length
      · have := hP j vs'[j] (List.getElem?_eq_getElem hj)
        rw [List.getElem?_eq_getElem hj]
        simpa using this.symm
      · have hj2 : vs.length ≤ j := by rw [List.size_toArray] at hlen; omega
        rw [List.getElem?_eq_none (by omega), List.getElem?_eq_none hj2]
    subst hvs
    obtain ⟨k, hDk⟩ := hpl
    have st : ∀ b o, h.get? b = some o → h'.get? b = some o := fun b o e => hk b o (fun hb => by
      have := Heap.lt_size e
      rw [List.mem_singleton.mp hb] at this
      exact Nat.lt_irrefl _ this) (pk b o e)
    have hDn : h.get? D = none := by
      cases e : h.get? D with
      | none => rfl
      | some o => have := pk _ _ e; exact absurd (hD.symm.trans this) (by simp)
    refine done D h' tk' ys.toList k (S.one st ?_ hDn) (Paired.all hF)
    rw [Array.toArray_toList]; exact hDk
theorem nmC {M : Model} {C : Addr} {mC : Str → Option Value} {v : Value} {y : Str} (hN : h.Ns C mC) (hv : mC y = some v) (q : Q v (Sh s h tk)) (hk : scope.kind = .function) (hx : (compEnv scope C env).kindOf y = some .local) (hd : (y == ("__debug__" : Str)) = false) :
    wpAny M A (eval (.Name y pos) (compEnv scope C env)) Q E (Sh s h tk) := wpAny_Name (wpAny_loadName_local (s := Sh s h tk) (env := compEnv scope C env) hk hx hN hv q) hd
end

-- Nb7
local macro_rules | `(tactic| walk_at "m:c") => `(tactic| first
  | walk_at "m:l"
  | ((with_reducible refine' callK ?ca ?cb ?cc ?cd ?ce); (case ca => with_reducible assumption); (case cb => rfl); (case cd => rfl); (case ce => rfl))
  | ((with_reducible refine' inK ?ca ?cb ?cc); (case ca => with_reducible assumption); (case cb => with_reducible assumption))
  | ((with_reducible refine seq_AugSub ?_ ?_); rotate_left; (intros; rfl))
  | ((with_reducible refine seq_SetSub ?_ ?_); rotate_left; rfl)
  | ((with_reducible refine' sLen ?ya ?yb); (case ya => first | omega | (simp only [List.length_append, List.length_cons, List.length_nil]; omega)))
  | with_reducible refine Sub_Slice ?_
  | with_reducible refine part_none ?_
  | with_reducible refine part_some ?_
  | with_reducible refine IfExp_ ?_
  | walk_at "m:s"
  | ((with_reducible refine' nmB ?na ?nb boot_len ?nc ?nd ?ne ?nf ?ng ?nh); (case na => with_reducible assumption); (case nb => with_reducible assumption); (case nc => rfl); (case nd => decide); (case nf => rfl); (case ng => rfl); (case nh => decide))
  | ((with_reducible refine' nmK ?ga ?gb ?gc ?gd ?ge ?gf ?gg); (case ge => rfl); (case gf => rfl); (case gg => decide); (case ga => with_reducible assumption); (case gb => with_reducible assumption); (case gc => rfl)))

noncomputable abbrev Txts (vs : List Value) (ls : List (List Nat)) : Prop := StrsAre vs (ls.map tx)
theorem Txts.length {vs : List Value} {ls : List (List Nat)} (h : Txts vs ls) : vs.length = ls.length := by rw [StrsAre.len_eq h, List.length_map]
theorem Txts.split {us : List Value} {dn : List (List Nat)} {cur : List Nat} (h : Txts us (dn ++ [cur])) : ∃ ud uc, us = ud ++ [Value.str (tx cur) uc] ∧ Txts ud dn := by
  induction dn generalizing us with
  | nil =>
    cases h with
    | cons y t h => cases h; exact ⟨[], t, rfl, .nil⟩
  | cons d dn ih =>
    cases h with
    | cons y t h =>
      obtain ⟨ud, uc, rfl, hud⟩ := ih h
      exact ⟨_ :: ud, uc, rfl, .cons _ _ hud⟩
theorem Txts.snoc {us : List Value} {dn : List (List Nat)} {cur : List Nat} {t : Tok} (h : Txts us dn) : Txts (us ++ [Value.str (tx cur) t]) (dn ++ [cur]) := by
  show StrsAre _ ((dn ++ [cur]).map _)
  rw [List.map_append]
  exact StrsAre.append' h (.cons _ _ .nil)
theorem Chars.split {vs : List Value} {cs : List Nat} {c : Nat} (h : Chars vs (cs ++ [c])) : ∃ vs' t, vs = vs' ++ [Value.str (tx [c]) t] ∧ Chars vs' cs := by
  have h' : StrsAre vs ((cs.map (fun c => [c]) ++ [[c]]).map tx) := by
    rw [show (cs.map (fun c => [c]) ++ [[c]]).map tx = (cs ++ [c]).map fun c => tx [c] by simp]; exact h
  obtain ⟨ud, uc, rfl, hud⟩ := Txts.split h'
  refine ⟨ud, uc, rfl, ?_⟩
  show StrsAre ud (cs.map fun c => tx [c])
  have hud' : StrsAre ud ((cs.map fun c => [c]).map tx) := hud
  rw [List.map_map] at hud'; exact hud'
theorem Txts.mem {vs : List Value} {ls : List (List Nat)} (h : Txts vs ls) {v : Value} (hv : v ∈ vs) : ∃ x t, v = Value.str (tx x) t ∧ x ∈ ls := by
  induction ls generalizing vs with
  | nil => cases h; cases hv
  | cons l ls ih =>
    cases h with
    | cons y t h =>
      rcases List.mem_cons.mp hv with rfl | hv
      · exact ⟨l, t, rfl, .head _⟩
      · obtain ⟨x, t, e, hx⟩ := ih h hv; exact ⟨x, t, e, .tail _ hx⟩
theorem Txts.paired {vs ys : List Value} {ls : List (List Nat)} {f : List Nat → List Nat} (h : Txts vs ls) (hP : Paired (fun v y => ∃ a t t', v = Value.str (tx a) t ∧ y = Value.str (tx (f a)) t') vs ys) : Txts ys (ls.map f) := by
  induction ls generalizing vs ys with
  | nil => cases h; cases hP; exact .nil
  | cons l ls ih =>
    cases h with
    | cons y t h =>
      cases hP with
      | cons hF hP =>
        obtain ⟨a, t1, t2, e1, rfl⟩ := hF
        injection e1 with ha _
        have := tx_inj.mp ha
        subst this
        exact .cons _ _ (ih h hP)
set_option maxRecDepth 100000 in
set_option maxHeartbeats 4000000 in
theorem rows_spec {w : World} {A : Around} {s : Shared} {h : Heap} {tk : Nat} {l : Addr} {vs : List Value} {cs : List Nat} {R : Nat} {t : Tok} {Q : Value → Shared → Prop} {E : Value → Shared → Prop} (G : Gd w h) (am : Am A 2)
    (hl : h.IsList l vs.toArray) (hi : Chars vs cs) (hc : ∀ c ∈ cs, c < 256) (hn : cs.length ≤ 1000) (hR : 4 ≤ R) (hR2 : R ≤ 11)
    (q : ∀ h' tk r us k, (∀ b o, h.get? b = some o → h'.get? b = some o) → h'.get? r = some (listOf us.toArray k) → h.get? r = none → Txts us (rowsOf R cs) → Q (.ref r) (Sh s h' tk)) :
    wpAny (model prg w) A (call (.ref 138) [.ref l, .int R t]) Q E (Sh s h tk) := by
  refine callD (binds := [(Str.ofString "line", .ref l), (Str.ofString "room", .int R t)]) G (by rfl) (by rfl) am.dp (BindsTo.of_eq rfl) (locs rfl) (fun h₁ tk₁ S => ?_) rfl rfl rfl (by decide)
  repeat walk_at "m:c"
  rename_i lr h2 S2 h3 S3
  refine seq_any (For_invV h rfl rfl ?_ (hE := PassesOwn.never))
  walk_at "m:c"
  refine iter_list (fun i m nw => m (Str.ofString "rows") = some (.ref lr) ∧ m (Str.ofString "line") = some (.ref l) ∧ m (Str.ofString "room") = some (.int R t) ∧
    ∃ us k, nw = [(lr, listOf us.toArray k)] ∧ Txts us ((rwFold R (cs.take i)).1 ++ [(rwFold R (cs.take i)).2])) am.hh (stays_list S3.F.keep hl) S3 ?_ (.inl (let ⟨o, ho, _⟩ := hl; ⟨o, ho⟩)) ?_ ?_
  · exact ⟨lk_eq, lk_ne (by decide) rfl, lk_ne (by decide) rfl, _, 0, rfl, .cons _ _ .nil⟩
  · rintro i v m₁ news₁ h₆ tk₆ it hv ⟨hf, hli, hro, us, k, rfl, hus⟩ S
    obtain ⟨c, tc, rfl, hcc⟩ := hi.item hv
    repeat walk_at "m:c"
    have hstep : rwFold R (cs.take (i + 1)) = rwStep R (rwFold R (cs.take i)) c := by rw [List.take_add_one, hcc]; exact rwFold_snoc _ _ _
    obtain ⟨n1, n2, n3⟩ := rwFold_len hR (cs.take i)
    have hti : (cs.take i).length ≤ 1000 := by rw [List.length_take]; omega
    have hcl : c < 256 := hc c (List.mem_of_getElem? hcc)
    have hpl := piece_len c
    generalize hst : rwFold R (cs.take i) = st at *
    obtain ⟨dn, cur⟩ := st
    dsimp only at *
    obtain ⟨ud, uc, rfl, hud⟩ := Txts.split hus
    have hudl := hud.length
    refine piece_spec (G.keeps S.F.keep) am.deeper hcl (fun h₇ tk₇ t₇ st₇ => ?_)
    replace S := S.stay st₇
    repeat walk_at "m:c"
    refine iteD (fun h1 => ?_) (fun h1 => ?_)
    · repeat walk_at "m:c"
      rename_i S9
      refine TurnEnd.next S9 ⟨by walk_at "m:lk", by walk_at "m:lk", by walk_at "m:lk", _, _, rfl, ?_⟩
      rw [hstep, rwStep, if_pos (by dsimp only; omega)]
      exact (hud.snoc).snoc
    · repeat walk_at "m:c"
      rename_i S9
      refine TurnEnd.next S9 ⟨by walk_at "m:lk", by walk_at "m:lk", by walk_at "m:lk", _, _, rfl, ?_⟩
      rw [hstep, rwStep, if_neg (by dsimp only; omega)]
      exact hud.snoc
  · rintro m₁ news₁ h₆ tk₆ ⟨hf, hli, hro, us, k, rfl, hus⟩ S
    rw [hi.length, List.take_length] at hus
    obtain ⟨n1, n2, n3⟩ := rwFold_len hR cs
    generalize hst : rwFold R cs = st at *
    obtain ⟨dn, cur⟩ := st
    dsimp only at *
    obtain ⟨ud, uc, rfl, hud⟩ := Txts.split hus
    have hudl := hud.length
    refine Cont.next ?_
    refine seq_If_join (fun s' => ∃ h' tk' m' us k dn' cur', s' = Sh s h' tk' ∧ St h h.objs.size h' m' [(lr, listOf us.toArray k)] ∧ m' (Str.ofString "rows") = some (.ref lr) ∧ Txts us (dn' ++ [cur']) ∧ (dn', cur') = rwEnd R cs (dn, cur)) ?_ ?_
    · have hsl : h₆.IsList l vs.toArray := stays_list S.F.keep hl
      refine cutS S (match cs.getLast? with | some c => decide (c = 32 ∨ c = 9) | none => false) ?_ (fun h₇ tk₇ S => ?_)
      · repeat walk_at "m:c"
        rename_i le h8 S8
        refine lNeNil (stays_list S8.F.keep hl) ⟨_, S8.get (.head _), rfl, 0, rfl⟩ (by have := am.hu; show A.units + 3 < 9900; omega) ?_
        repeat walk_at "m:c"
        refine iteD (fun h1 => ?_) (fun h1 => ?_)
        · rcases List.eq_nil_or_concat cs with rfl | ⟨cs', c, rfl⟩
          · exact absurd (StrsAre.nil_inv hi) h1
          · rw [List.concat_eq_append] at hi ⊢
            obtain ⟨vs', tc, rfl, _⟩ := Chars.split hi
            repeat walk_at "m:c"
            refine lastB (stays_list S8.F.keep hl) ?_ (by rfl)
            repeat walk_at "m:c"
            refine iteD (fun h2 => ?_) (fun h2 => ?_)
            · repeat walk_at "m:c"
              exact ⟨by simp at h2 ⊢; simp [h2], _, _, rfl, S8.drop⟩
            · exact ⟨by simp at h2 ⊢; simp [h2], _, _, rfl, S8.drop⟩
        · have : cs = [] := by
            have := hi.length
            rw [Classical.not_not.mp h1] at this
            exact List.length_eq_zero_iff.mp this.symm
          subst this
          exact ⟨rfl, _, _, rfl, S8.drop⟩
      · refine iteB (fun hbl => ?_) (fun hbl => ?_)
        · rcases List.eq_nil_or_concat cs with rfl | ⟨cs', c, rfl⟩
          · exact absurd hbl (by simp)
          · rw [List.concat_eq_append] at hi hbl ⊢
            obtain ⟨vs', tc, rfl, _⟩ := Chars.split hi
            have hcb : c = 32 ∨ c = 9 := by simpa using hbl
            repeat walk_at "m:c"
            refine iteD (fun h2 => ?_) (fun h2 => ?_)
            · repeat walk_at "m:c"
              rename_i hS h' t' tk' S
              refine lastB (stays_list S.F.keep hl) ?_ (by rfl)
              repeat walk_at "m:c"
              have hcut : cut cur none (some (-1)) = cur.dropLast := by
                unfold cut
                simp only [Option.elim, List.drop_zero, Nat.sub_zero]
                rw [show (-1 : Int) = -((1 : Nat) : Int) from rfl, clipAt_neg _ _ (by decide), List.dropLast_eq_take]
              have hcl : (cut cur none (some (-1))).length ≤ 10 := by rw [hcut, List.length_dropLast]; omega
              have hre : rwEnd R (cs' ++ [c]) (dn, cur) = (dn, cut cur none (some (-1)) ++ quo c) := by
                rw [hcut]; simp only [rwEnd, List.getLast?_append]; simp [hcb]; omega
              refine iteD (fun h3 => ?_) (fun h3 => ?_)
              · repeat walk_at "m:c"
                rename_i S9
                have : quo c = [61, 50, 48] := by simp at h3; subst h3; rfl
                exact Nx.next ⟨_, _, _, _, _, dn, _, rfl, S9, by walk_at "m:lk", hud.snoc, by rw [hre, this]⟩
              · repeat walk_at "m:c"
                rename_i S9
                have : quo c = [61, 48, 57] := by simp at h3; rcases hcb with rfl | rfl; exact absurd rfl h3; rfl
                exact Nx.next ⟨_, _, _, _, _, dn, _, rfl, S9, by walk_at "m:lk", hud.snoc, by rw [hre, this]⟩
            · repeat walk_at "m:c"
              rename_i S9
              exact Nx.next ⟨_, _, _, _, _, dn ++ [cur], [], rfl, S9, by walk_at "m:lk", (hud.snoc).snoc, by simp only [rwEnd, List.getLast?_append]; simp [hcb]; omega⟩
        · have hnb : rwEnd R cs (dn, cur) = rwMerge R (dn, cur) := by
            unfold rwEnd
            split
            · rename_i c hg
              rw [hg] at hbl
              rw [if_neg (by simpa using hbl)]
            · rfl
          rcases List.eq_nil_or_concat dn with rfl | ⟨dn', x, rfl⟩
          · obtain rfl := StrsAre.nil_inv hud
            repeat walk_at "m:c"
            refine iteD (fun h3 => ?_) (fun h3 => ?_)
            · exact absurd h3 (by simp)
            · repeat walk_at "m:c"
              exact Nx.next ⟨_, _, _, _, _, [], cur, rfl, S, by walk_at "m:lk", (Txts.snoc (dn := []) .nil), by rw [hnb]; rfl⟩
          · rw [List.concat_eq_append] at hud n1 n3 hnb hudl
            obtain ⟨ud', ux, rfl, hud'⟩ := Txts.split hud
            simp only [List.length_append, List.length_cons, List.length_nil] at n1 hudl
            have hxl : x.length ≤ R - 1 := n3 x (by simp)
            repeat walk_at "m:c"
            refine iteD (fun h3 => ?_) (fun h3 => absurd (by simp; omega) h3)
            repeat walk_at "m:c"
            refine iteB (fun h4 => ?_) (fun h4 => ?_)
            · repeat walk_at "m:c"
              rename_i nl h8 S8 sl h9 S9
              have h4' : x.length + cur.length = R := by simp at h4; omega
              refine setLastTwo_s S9 ⟨_, S9.get (.head _), rfl, rfl⟩ ⟨_, S9.get (.tail _ (.head _)), rfl, 0, rfl⟩ ?_ (by walk_at "m:up") (by omega) (fun h10 S10 => ?_)
              · have := S9.D; simp at this; exact fun e => this.2 e.symm
              repeat walk_at "m:c"
              exact Nx.next ⟨_, _, _, _, _, dn', x ++ cur, rfl, S10.drop.drop, by walk_at "m:lk", hud'.snoc, by rw [List.concat_eq_append, hnb]; simp [rwMerge, h4']⟩
            · repeat walk_at "m:c"
              have h4' : ¬ x.length + cur.length = R := by intro e; simp at h4; omega
              exact Nx.next ⟨_, _, _, _, _, dn' ++ [x], cur, rfl, S, by walk_at "m:lk", (hud'.snoc).snoc, by rw [List.concat_eq_append, hnb]; simp [rwMerge, h4']⟩
    · rintro s' ⟨h', tk', m', us', k', dn', cur', rfl, S', hm', hus', he⟩
      obtain ⟨ud', uc', rfl, hud'⟩ := Txts.split hus'
      have hul := hud'.length
      have hlen' : dn'.length ≤ 2000 ∧ cur'.length ≤ 30 ∧ ∀ x ∈ dn', x.length ≤ 30 := rwEnd_len hR hR2 he (by omega) n2 n3
      repeat walk_at "m:c"
      refine compL (fun v y => ∃ a t t', v = .str (tx a) t ∧ y = .str (tx (a ++ [61])) t') ?_ (by decide) (by decide) rfl (by decide) rfl (by intro _; rfl)
      repeat walk_at "m:c"
      refine slL S' ⟨_, S'.get (.head _), rfl, k', rfl⟩ .none (.int _ _) (by simp; omega) (fun d h10 S10 => ?_) (by intro _; rfl) (by intro _; rfl)
      have hcut : cut (ud' ++ [Value.str (tx cur') uc']) none (some (-1)) = ud' := by
        unfold cut
        simp only [Option.elim, List.drop_zero, Nat.sub_zero]
        rw [show (-1 : Int) = -((1 : Nat) : Int) from rfl, clipAt_neg _ _ (by decide)]
        simp
      rw [hcut] at S10
      refine compList am.hh S10 ⟨_, S10.get (.head _), rfl, 0, rfl⟩ (by omega) ?_ ?_
      · intro C v s₃ h' tk' mC hv hN hm hk
        obtain ⟨x, tx', rfl, hx⟩ := hud'.mem hv
        have hx30 := hlen'.2.2 x hx
        walk_at "m:c"
        refine nmC hN hm ?_ rfl rfl (by decide)
        repeat walk_at "m:c"
        exact EltEnd.same ⟨_, _, _, rfl, rfl⟩
      · intro d2 h11 tk11 ys k11 S11 hP
        repeat walk_at "m:c"
        rename_i l3 h12 S12
        have hT := hud'.paired hP
        have hyl := hT.length
        rw [List.length_map] at hyl
        refine lAdd S12 ⟨_, S12.get (.tail _ (.head _)), rfl, k11, rfl⟩ ⟨_, S12.get (.head _), rfl, 0, rfl⟩ (by simp; omega) (fun d3 h13 S13 => ?_)
        repeat walk_at "m:c"
        refine q _ _ d3 _ 0 S13.F.keep (S13.get (.head _)) (S13.N.fresh (.head _)) ?_
        have : rowsOf R cs = dn'.map (· ++ [61]) ++ [cur'] := by unfold rowsOf; rw [hst, ← he]
        rw [this]
        exact hT.snoc

-- Nb8
section
variable {w : World} {A : Around} {E : Value → Shared → Prop} {s : Shared} {h : Heap} {tk : Nat} {Q : Value → Shared → Prop} {prog : Program}
theorem tBytes {b : Array UInt8} {t : Tok} (q : Q (.type "bytes") (Sh s h tk)) : wpAny (model prog w) A (call (.type "type") [.bytes b t]) Q E (Sh s h tk) := call_type_of (typeIs_bytes _ _ _) (by decide) q
theorem tBool {b : Bool} (q : Q (.type "bool") (Sh s h tk)) : wpAny (model prog w) A (call (.type "type") [.bool b]) Q E (Sh s h tk) := call_type_of (PySem.typeIs_bool _ _) (by decide) q
theorem isTT {M : Model} {a b : String} (q : Q (.bool (decide (a = b))) (Sh s h tk)) : wpAny M A (compareOp .Is (.type a) (.type b)) Q E (Sh s h tk) := wpAny_is_plain rfl (by
  have : (Value.type a == Value.type b) = decide (a = b) := by
    rw [Bool.eq_iff_iff, beq_iff_eq, decide_eq_true_eq]; simp
  rw [this]; exact q)
theorem isBN {M : Model} {a : Bool} (q : Q (.bool false) (Sh s h tk)) : wpAny M A (compareOp .Is (.bool a) .none) Q E (Sh s h tk) := is_bool_none q
end
local macro_rules | `(tactic| walk_at "m:b") => `(tactic| first
  | with_reducible refine tBytes ?_
  | with_reducible refine tBool ?_
  | with_reducible refine isTT ?_
  | with_reducible refine isBN ?_
  | with_reducible refine wpAny_Constant_none ?_
  | ((with_reducible refine PyProof.Rows.callWith_type1 ?_ ?_ ?_); rotate_left; rfl; rfl)
  | walk_at "m:c"
  | ((with_reducible refine' nmB ?na ?nb ?ni ?nc ?nd ?ne ?nf ?ng ?nh); (case nf => rfl); (case ng => rfl); (case nh => decide); (case na => with_reducible assumption); (case nb => with_reducible assumption); (case ni => boot_fast); (case nc => rfl); (case nd => decide))
  | ((with_reducible refine' isTrue_plain ?ia ?ib); (case ib => rfl)))

set_option maxRecDepth 100000 in
set_option maxHeartbeats 4000000 in
theorem buffer_spec {w : World} {A : Around} {s : Shared} {h : Heap} {tk : Nat} {b : Array UInt8} {t : Tok} {Q : Value → Shared → Prop} {E : Value → Shared → Prop} (G : Gd w h) (am : Am A 1)
    (q : ∀ h' tk, (∀ b o, h.get? b = some o → h'.get? b = some o) → Q (.bytes b t) (Sh s h' tk)) :
    wpAny (model prg w) A (call (.ref 79) [.bytes b t]) Q E (Sh s h tk) := by
  refine callD (binds := [(Str.ofString "data", .bytes b t)]) G (by rfl) (by rfl) am.dp (BindsTo.of_eq rfl) (locs rfl) (fun h₁ tk₁ S => ?_) rfl rfl rfl (by decide)
  repeat walk_at "m:b"
  refine iteD (fun _ => ?_) (fun h1 => absurd rfl h1)
  repeat walk_at "m:b"
  exact q _ _ (St.F (by assumption)).keep
set_option maxRecDepth 100000 in
set_option maxHeartbeats 4000000 in
theorem truth_spec {w : World} {A : Around} {s : Shared} {h : Heap} {tk : Nat} {Q : Value → Shared → Prop} {E : Value → Shared → Prop} (G : Gd w h) (am : Am A 1)
    (q : ∀ h' tk, (∀ b o, h.get? b = some o → h'.get? b = some o) → Q (.bool false) (Sh s h' tk)) :
    wpAny (model prg w) A (call (.ref 86) [.bool false]) Q E (Sh s h tk) := by
  refine callD (binds := [(Str.ofString "x", .bool false)]) G (by rfl) (by rfl) am.dp (BindsTo.of_eq rfl) (locs rfl) (fun h₁ tk₁ S => ?_) rfl rfl rfl (by decide)
  repeat walk_at "m:b"
  refine iteD (fun _ => ?_) (fun h1 => absurd rfl h1)
  repeat walk_at "m:b"
  exact q _ _ (St.F (by assumption)).keep

-- NbG
section
variable {prog : Program} {w : World} {A : Around} {E : Value → Shared → Prop} {s : Shared} {h : Heap} {tk : Nat} {env : Env} {h₀ : Heap} {x : Str} {body : List Stmt}
theorem iter_bytes {Q : Flow → Shared → Prop} {b : Array UInt8} {t : Tok} {m₀ : Str → Option Value} {news : List (Addr × Obj)} (J : Nat → (Str → Option Value) → List (Addr × Obj) → Prop)
    (hh : A.handled = none) (S : St h₀ env.locals h m₀ news) (hj : J 0 m₀ news)
    (turn : ∀ i c u m₁ news₁ h tk it, b[i]? = some c → J i m₁ news₁ → St h₀ env.locals h (upd m₁ x (.int (c.toNat : Int) u)) (it :: news₁) →
      wpAny (model prog w) A (execs body env) (TurnEnd h₀ env.locals (J (i + 1)) it s Q) NoE (Sh s h tk))
    (done : ∀ m₁ news₁ h tk, J b.size m₁ news₁ → St h₀ env.locals h m₁ news₁ → Q .next (Sh s h tk)) :
    wpAny (model prog w) A (pyIter (.bytes b t)) (fun it s₂ => LoopAtV prog w A h₀ env x body Q NoE it s₂) NoE (Sh s h tk) := by
  refine KBw.pyIter_bytes (s := Sh s h tk) ?_
  show LoopAtV prog w A h₀ env x body Q NoE (.ref h.objs.size) (Sh s (h.push { cls := .type "bytes_iterator", data := .fields #[.bytes b t, .int 0 0] }) tk)
  have W := KBw.walks (prog := prog) (w := w) hh h.objs.size b t
  refine iter_walk (s := s) (tk := tk) (src := h.objs.size) J W (fun b hb => .inl (List.mem_singleton.mp hb)) (fun i h st => ?_) ⟨_, Heap.get?_push_size _ rfl, rfl, rfl⟩ ?_
    (S.one (o := { cls := .type "bytes_iterator", data := .fields #[.bytes b t, .int 0 0] }) (fun _ _ e => Heap.get?_push_of_some _ e) (Heap.get?_push_size _ rfl) (fresh_size _)) hj ?_ (.inr (.inr rfl))
    (fun i v m₁ news₁ h tk io hi hP hJ S' => ?_) done
  · obtain ⟨o, ho, _⟩ := st
    exact ⟨o, ho⟩
  · cases q : h₀.get? h.objs.size with
    | none => rfl
    | some o => exact absurd (Heap.lt_size (S.F.keep _ _ q)) (Nat.lt_irrefl _)
  · exact fun e => Nat.lt_irrefl _ (e ▸ S.F.ns.lt)
  · obtain ⟨c, u, hc, rfl⟩ := hP
    exact turn i c u m₁ news₁ h tk _ hc hJ S'
end
theorem and_low (a b : Nat) (hb : b < 256) : (a * 256) &&& b = 0 := by
  apply Nat.eq_of_testBit_eq
  intro i
  rw [Nat.testBit_and, Nat.zero_testBit]
  by_cases hi : i < 8
  · have : (a * 256).testBit i = false := by
      rw [show a * 256 = 2 ^ 8 * a by omega, Nat.testBit_two_pow_mul]
      simp; omega
    rw [this]; rfl
  · have : b.testBit i = false := Nat.testBit_lt_two_pow (Nat.lt_of_lt_of_le hb (by
      have : 2 ^ 8 ≤ 2 ^ i := Nat.pow_le_pow_right (by decide) (by omega)
      exact this))
    rw [this, Bool.and_false]
theorem orLow {a b : Int} (ha : 0 ≤ a) (hb : 0 ≤ b) (hb2 : b < 256) : Builtin.bitOr (a * 2 ^ (8 : Int).toNat) b = a * 256 + b := by
  rw [bitOr_and, bitAnd_pp (by simp; omega) hb]
  have e : (a * 2 ^ (8 : Int).toNat).toNat = a.toNat * 256 := by simp; omega
  rw [e, and_low _ _ (by omega)]
  simp
section
variable {prog : Program} {w : World} {A : Around} {E : Value → Shared → Prop} {s : Shared} {h : Heap} {tk : Nat} {a b n : Int} {t u : Tok} {Q : Value → Shared → Prop}
theorem iShl8 (ha : 0 ≤ a) (ha2 : a < 1000000) (q : Q (.int (a * 2 ^ (8 : Int).toNat) tk) (Sh s h (tk + 1))) : wpAny (model prog w) A (binaryOp .LShift (.int a t) (.int 8 u)) Q E (Sh s h tk) :=
  lshift_int_small (by decide) (by decide) (by omega) q
theorem iShl (hn : 0 ≤ n) (hn2 : n ≤ 1000) (ha : 0 ≤ a) (ha2 : a < 1000000) (q : Q (.int (a * 2 ^ n.toNat) tk) (Sh s h (tk + 1))) : wpAny (model prog w) A (binaryOp .LShift (.int a t) (.int n u)) Q E (Sh s h tk) :=
  lshift_int_small hn (by omega) (by omega) q
theorem iOr (q : Q (.int (Builtin.bitOr a b) tk) (Sh s h (tk + 1))) : wpAny (model prog w) A (binaryOp .BitOr (.int a t) (.int b u)) Q E (Sh s h tk) := or_int q
theorem iAnd (q : Q (.int (Builtin.bitAnd a b) tk) (Sh s h (tk + 1))) : wpAny (model prog w) A (binaryOp .BitAnd (.int a t) (.int b u)) Q E (Sh s h tk) := and_int q
theorem iShr (hn : 0 ≤ n) (q : Q (.int (a / 2 ^ n.toNat) tk) (Sh s h (tk + 1))) : wpAny (model prog w) A (binaryOp .RShift (.int a t) (.int n u)) Q E (Sh s h tk) := by
  refine rshift_int hn ?_
  rw [Int.fdiv_eq_ediv_of_nonneg _ (Int.le_of_lt (Int.pow_pos (by decide)))]
  exact q
theorem bItem {value slice : Expr} {l : List UInt8} {i : Int} (hz : l.length ≤ 1000000) (h0 : 0 ≤ i) (h1 : i < l.length) (q : Q (.int (l.getD i.toNat 0).toNat tk) (Sh s h (tk + 1)))
    (hs : subscripted slice false (.bytes l.toArray t) (.int i u) = operate [.bytes l.toArray t, .int i u] (getItem (.bytes l.toArray t) (.int i u)))
    (ht : ∀ r, letTemporaryGo value (.bytes l.toArray t) r = pure ()) :
    wpAny (model prog w) A (subscriptTail value slice (.bytes l.toArray t) (.int i u)) Q E (Sh s h tk) :=
  subscriptTail_builtin (typeIs_bytes _ _ _) FB.slot_bytes_getitem.lookup (getItem_bytes (s := Sh s h tk) (by omega) h0 h1 q) hs ht
end

-- Nb9
theorem gl_B64 (w : World) : ∃ t, nsIn (KK w) mainGlobals (Str.ofString "_B64") = some (some (.bytes b64L.toArray t)) := ⟨_, rfl⟩
noncomputable abbrev NatsAre (vs : List Value) (ns : List Nat) : Prop := IntsAre vs (ns.map fun n : Nat => (n : Int))
theorem nats_snoc {vs : List Value} {ns : List Nat} {n : Nat} {i : Int} {t : Tok} (h : NatsAre vs ns) (e : i = (n : Int)) : NatsAre (vs ++ [.int i t]) (ns ++ [n]) := by
  subst e
  show IntsAre _ ((ns ++ [n]).map _)
  rw [List.map_append]
  exact ints_snoc h
theorem NatsAre.length {vs : List Value} {ns : List Nat} (h : NatsAre vs ns) : vs.length = ns.length := by rw [IntsAre.length h, List.length_map]
set_option maxRecDepth 100000 in
set_option maxHeartbeats 4000000 in
theorem b2a_spec {w : World} {A : Around} {s : Shared} {h : Heap} {tk : Nat} {b : Array UInt8} {t : Tok} {Q : Value → Shared → Prop} {E : Value → Shared → Prop} (G : Gd w h) (am : Am A 2) (hz : b.size ≤ 1000)
    (q : ∀ h' tk t', (∀ b o, h.get? b = some o → h'.get? b = some o) → Q (.bytes ((b2aEnd (b2aFold (b.toList.map (·.toNat)))).map (·.toUInt8)).toArray t') (Sh s h' tk)) :
    wpAny (model prg w) A (call (.ref 94) [.bytes b t] [(Str.ofString "newline", .bool false)]) Q E (Sh s h tk) := by
  refine callD (binds := [(Str.ofString "data", .bytes b t), (Str.ofString "newline", .bool false)]) G (by rfl) (by rfl) am.dp (BindsTo.of_eq rfl) (locs rfl) (fun h₁ tk₁ S => ?_) rfl rfl rfl (by decide)
  repeat walk_at "m:b"
  refine buffer_spec (G.keeps S.F.keep) am.deeper (fun h₂ tk₂ st => ?_)
  replace S := S.stay st
  repeat walk_at "m:b"
  rename_i h₃ S₃
  refine truth_spec (G.keeps S₃.F.keep) am.deeper (fun h₄ tk₄ st => ?_)
  replace S₃ := S₃.stay st
  repeat walk_at "m:b"
  rename_i lo h₅ S₅ h₆ S₆ h₇ S₇ h₈ S₈
  refine seq_any (For_invV h rfl rfl ?_ (hE := PassesOwn.never))
  walk_at "m:b"
  refine iter_bytes (fun i m nw => m (Str.ofString "newline") = some (.bool false) ∧ m (Str.ofString "out") = some (.ref lo) ∧ (∃ t, m (Str.ofString "leftchar") = some (.int ((b2aFold ((b.toList.map (·.toNat)).take i)).2.1 : Nat) t)) ∧
    (∃ t, m (Str.ofString "leftbits") = some (.int ((b2aFold ((b.toList.map (·.toNat)).take i)).2.2 : Nat) t)) ∧ ∃ us k, nw = [(lo, listOf us.toArray k)] ∧ NatsAre us (b2aFold ((b.toList.map (·.toNat)).take i)).1) am.hh S₈ ?_ ?_ ?_
  · exact ⟨by walk_at "m:lk", by walk_at "m:lk", ⟨_, by walk_at "m:lk"⟩, ⟨_, by walk_at "m:lk"⟩, [], 0, rfl, .nil⟩
  · rintro i c u m₁ news₁ h₉ tk₉ it hc ⟨hnl, hou, ⟨tlc, hlc⟩, ⟨tlb, hlb⟩, us, k, rfl, hus⟩ S
    have hci : (b.toList.map (·.toNat))[i]? = some c.toNat := by simp [hc]
    have hstep : b2aFold ((b.toList.map (·.toNat)).take (i + 1)) = b2aStep (b2aFold ((b.toList.map (·.toNat)).take i)) c.toNat := by
      rw [List.take_add_one, hci]; simp [b2aFold]
    obtain ⟨n1, n2, n3⟩ := b2aFold_ok ((b.toList.map (·.toNat)).take i)
    have n3' : (b2aFold ((b.toList.map (·.toNat)).take i)).1.length ≤ 3000 := by
      have : ((b.toList.map (·.toNat)).take i).length ≤ 1000 := by simp; omega
      omega
    have hc2 : c.toNat < 256 := c.toNat_lt
    generalize hst : b2aFold ((b.toList.map (·.toNat)).take i) = st at *
    obtain ⟨out, lc, lb⟩ := st
    dsimp only at *
    repeat walk_at "m:b"
    refine iShl8 (by omega) (by omega) ?_
    repeat walk_at "m:b"
    refine iOr ?_
    repeat walk_at "m:b"
    refine iAnd ?_
    have e1 : Builtin.bitAnd (Builtin.bitOr ((lc : Int) * 2 ^ (8 : Int).toNat) (c.toNat : Int)) 65535 = (((lc * 256 + c.toNat) % 65536 : Nat) : Int) := by
      rw [orLow (by omega) (by omega) (by omega), bitAnd_m16]; omega
    rw [e1]
    have hlc2 : (lc * 256 + c.toNat) % 65536 < 65536 := Nat.mod_lt _ (by decide)
    have hstep' : b2aFold ((b.toList.map (·.toNat)).take (i + 1)) = (out ++ (em ((lc * 256 + c.toNat) % 65536) 3 (lb + 8)).1, (lc * 256 + c.toNat) % 65536, (em ((lc * 256 + c.toNat) % 65536) 3 (lb + 8)).2) := hstep
    generalize (lc * 256 + c.toNat) % 65536 = lc2 at *
    repeat walk_at "m:b"
    rename_i S10
    refine seq_any (while_inv (fun n m nw => m (Str.ofString "newline") = some (.bool false) ∧ m (Str.ofString "out") = some (.ref lo) ∧ (∃ t, m (Str.ofString "leftchar") = some (.int (lc2 : Nat) t)) ∧
      ∃ lb' out', (∃ t, m (Str.ofString "leftbits") = some (.int (lb' : Nat) t)) ∧ lb' < 6 * n + 6 ∧ out'.length ≤ 4000 - n ∧ n ≤ 3 ∧ out' ++ (em lc2 n lb').1 = out ++ (em lc2 3 (lb + 8)).1 ∧ (em lc2 n lb').2 = (em lc2 3 (lb + 8)).2 ∧ ∃ us k, nw = [it, (lo, listOf us.toArray k)] ∧ NatsAre us out') (n₀ := 3) S10 ?_ ?_)
    · exact ⟨by walk_at "m:lk", by walk_at "m:lk", ⟨_, by walk_at "m:lk"⟩, lb + 8, out, ⟨_, by refine (lk_eq).trans ?_; rfl⟩, by omega, by omega, by omega, rfl, rfl, us, k, rfl, hus⟩
    · rintro n m₂ nw₂ h11 tk11 S11 ⟨hnl, hou, ⟨tl, hlc⟩, lb', out', ⟨tb, hlb⟩, g1, g2, g3, g4, g5, us', k', rfl, hus'⟩
      repeat walk_at "m:b"
      refine iteD (fun h6 => ?_) (fun h6 => ?_)
      · repeat walk_at "m:b"
        refine iShr (by omega) ?_
        repeat walk_at "m:b"
        refine iAnd ?_
        rw [bitAnd_m6]
        have e2 : (lc2 : Int) / 2 ^ ((lb' : Int) - 6).toNat % 64 = ((lc2 / 2 ^ (lb' - 6) % 64 : Nat) : Int) := by
          rw [show ((lb' : Int) - 6).toNat = lb' - 6 by omega]; push_cast; rfl
        rw [e2]
        have hlt : lc2 / 2 ^ (lb' - 6) % 64 < 64 := Nat.mod_lt _ (by decide)
        refine bItem (l := b64L) (by decide) (by omega) (by show _ < ((64 : Nat) : Int); omega) ?_ (by rfl) (by intro _; rfl)
        rw [Int.toNat_natCast]
        have husl := hus'.length
        repeat walk_at "m:b"
        rename_i h12 S12 h13 S13
        obtain ⟨n', rfl⟩ : ∃ n', n = n' + 1 := ⟨n - 1, by omega⟩
        rw [em, if_pos (by omega)] at g4 g5
        refine ⟨h13, _, _, _, n', rfl, S13, Nat.lt_succ_self _, by walk_at "m:lk", by walk_at "m:lk", ⟨_, by walk_at "m:lk"⟩, lb' - 6, out' ++ [b64 (lc2 / 2 ^ (lb' - 6) % 64)], ?_, by omega, by simp; omega, by omega, ?_, g5, _, _, rfl, nats_snoc hus' rfl⟩
        · have e3 : ((lb' - 6 : Nat) : Int) = (lb' : Int) - 6 := by omega
          rw [e3]; exact ⟨_, lk_eq⟩
        · rw [← g4]; simp
      · have hlt : lb' < 6 := by omega
        rw [em_low _ _ _ hlt] at g4 g5
        repeat walk_at "m:b"
        refine TurnEnd.next S11 ⟨hnl, hou, ?_, ?_, us', k', rfl, ?_⟩
        · rw [hstep']; exact ⟨_, hlc⟩
        · rw [hstep', ← g5]; exact ⟨_, hlb⟩
        · rw [hstep', ← g4]; simpa using hus'
  · rintro m₁ news₁ h₉ tk₉ ⟨hnl, hou, ⟨tlc, hlc⟩, ⟨tlb, hlb⟩, us, k, rfl, hus⟩ S
    rw [List.take_of_length_le (by simp)] at hlc hlb hus
    obtain ⟨n1, n2, n3⟩ := b2aFold_ok (b.toList.map (·.toNat))
    have n3' : (b2aFold (b.toList.map (·.toNat))).1.length ≤ 3000 := by simp at n3; omega
    generalize hst : b2aFold (b.toList.map (·.toNat)) = st at *
    obtain ⟨out, lc, lb⟩ := st
    dsimp only at *
    have husl := hus.length
    refine Cont.next ?_
    refine seq_If_join (fun s' => ∃ h' tk' m' us k, s' = Sh s h' tk' ∧ St h h.objs.size h' m' [(lo, listOf us.toArray k)] ∧ m' (Str.ofString "newline") = some (.bool false) ∧ m' (Str.ofString "out") = some (.ref lo) ∧ NatsAre us (b2aEnd (out, lc, lb))) ?_ ?_
    · repeat walk_at "m:b"
      refine iteB (fun h2 => ?_) (fun h2 => ?_)
      · have hb2 : lb = 2 := by simp at h2; omega
        repeat walk_at "m:b"
        refine iAnd ?_
        rw [bitAnd_m2]
        repeat walk_at "m:b"
        refine iShl (by decide) (by decide) (by omega) (by omega) ?_
        have e4 : (lc : Int) % 4 * 2 ^ (4 : Int).toNat = ((lc % 4 * 16 : Nat) : Int) := by simp
        rw [e4]
        refine bItem (l := b64L) (by decide) (by omega) (by show _ < ((64 : Nat) : Int); omega) ?_ (by rfl) (by intro _; rfl)
        rw [Int.toNat_natCast]
        repeat walk_at "m:b"
        rename_i S12
        refine Nx.next ⟨_, _, _, _, _, rfl, S12, hnl, hou, ?_⟩
        have : b2aEnd (out, lc, lb) = out ++ [b64 (lc % 4 * 16)] ++ [61] ++ [61] := by simp [b2aEnd, hb2]
        rw [this]
        exact nats_snoc (nats_snoc (nats_snoc hus rfl) rfl) rfl
      · have hb2 : ¬ lb = 2 := by intro e; simp at h2; omega
        repeat walk_at "m:b"
        refine iteB (fun h3 => ?_) (fun h3 => ?_)
        · have hb4 : lb = 4 := by simp at h3; omega
          repeat walk_at "m:b"
          refine iAnd ?_
          rw [bitAnd_m4]
          repeat walk_at "m:b"
          refine iShl (by decide) (by decide) (by omega) (by omega) ?_
          have e4 : (lc : Int) % 16 * 2 ^ (2 : Int).toNat = ((lc % 16 * 4 : Nat) : Int) := by simp
          rw [e4]
          refine bItem (l := b64L) (by decide) (by omega) (by show _ < ((64 : Nat) : Int); omega) ?_ (by rfl) (by intro _; rfl)
          rw [Int.toNat_natCast]
          repeat walk_at "m:b"
          rename_i S12
          refine Nx.next ⟨_, _, _, _, _, rfl, S12, hnl, hou, ?_⟩
          have : b2aEnd (out, lc, lb) = out ++ [b64 (lc % 16 * 4)] ++ [61] := by simp [b2aEnd, hb4]
          rw [this]
          exact nats_snoc (nats_snoc hus rfl) rfl
        · have hb4 : ¬ lb = 4 := by intro e; simp at h3; omega
          repeat walk_at "m:b"
          refine Nx.next ⟨_, _, _, _, _, rfl, S, hnl, hou, ?_⟩
          have : b2aEnd (out, lc, lb) = out := by simp [b2aEnd, hb2, hb4]
          rw [this]; exact hus
    · rintro s' ⟨h', tk', m', us', k', rfl, S', hnl', hou', hus'⟩
      repeat walk_at "m:b"
      have hul := hus'.length
      have hel : (b2aEnd (out, lc, lb)).length ≤ 3010 := by unfold b2aEnd; split <;> (try split) <;> simp <;> omega
      have hall : ∀ n ∈ b2aEnd (out, lc, lb), n < 256 := b2aEnd_all (by have := b2aFold_all (b.toList.map (·.toNat)); rw [hst] at this; exact this)
      refine call_bytes_ints (s := Sh s h' tk') ⟨_, S'.get (.head _), rfl, k', rfl⟩ hus' ?_ (by show _ ≤ 16777216; omega) am.hh (fun h'' t'' k'' st => ?_)
      · intro n hn
        obtain ⟨m, hm, rfl⟩ := List.mem_map.mp hn
        have := hall m hm
        omega
      · have e : byteArr ((b2aEnd (out, lc, lb)).map fun n : Nat => (n : Int)) = ((b2aEnd (out, lc, lb)).map (·.toUInt8)).toArray := by
          simp [byteArr]
        rw [e]
        exact Fin.ret (q h'' k'' t'' (fun b o e => st b o (S'.F.keep b o e)))

-- NbH
theorem mt_plain : plainId "bytes.maketrans" = true := by decide +kernel
theorem mt_entry : entryFor table "bytes.maketrans" = some Builtin.«bytes.maketrans» := entryFor_of_tree (by kernel_rfl)
theorem bt_entry : entryFor table "bytes.translate" = some Builtin.«bytes.translate» := entryFor_of_tree (by kernel_rfl)
theorem bt_slot : Slot "bytes" "translate" "bytes.translate" :=
  .of (owner := "bytes") (n := "translate") (by rw [typeLookup_type, builtinLookup_eq_fast]; kernel_rfl) (by decide +kernel) (by decide +kernel) (by decide +kernel)
    (by first | exact .inl (by decide +kernel) | exact .inr (by decide +kernel)) (by rw [isSubtype_type]; kernel_rfl)
theorem bt_type : typeOf (.builtin "bytes.translate") = pure (.type "method_descriptor") := by show builtinType _ = _; rw [builtinType_eq_fast]; kernel_rfl
theorem bt_args (a b : Value) : argsOk "bytes.translate" ⟨[a, b], []⟩ := by unfold argsOk; kernel_rfl
theorem mt_check (a b : Value) : checkBuiltinCall "bytes.maketrans" ⟨[a, b], []⟩ = pure () := by kernel_rfl
/-- the table that maketrans makes of + and / -/
noncomputable def mtTab (x y : UInt8) : Array UInt8 := (((Array.range 256).map (·.toUInt8)).setIfInBounds 43 x).setIfInBounds 47 y
section
variable {prog : Program} {w : World} {A : Around} {E : Value → Shared → Prop} {s : Shared} {h : Heap} {tk : Nat} {Q : Value → Shared → Prop} {t u : Tok}
theorem sMaketrans {x y : UInt8} (q : Q (.bytes (mtTab x y) tk) (Sh s h (tk + 1))) : wpAny (model prog w) A (call (.builtin "bytes.maketrans") [.bytes #[43, 47] t, .bytes #[x, y] u]) Q E (Sh s h tk) := by
  refine wpAny_call (codeAny_call_builtin mt_plain mt_entry (wpAny_of_eq (mt_check _ _) ?_))
  unfold Builtin.«bytes.maketrans» Builtin.Bytes.maketransM
  refine wpAny_bind (wpAny_pure ?_)
  refine wpAny_bind (wpAny_pure ?_)
  refine wpAny_bind (wpAny_of_eq (a := #[43, 47]) KBd.like_eq ?_)
  refine wpAny_bind (wpAny_of_eq (a := #[x, y]) KBd.like_eq ?_)
  rw [if_neg (by simp)]
  have hsz : (mtTab x y).size ≤ 16777216 := by simp [mtTab]
  refine wpAny_bind ?_
  show wpAny (model prog w) A.in1 (mkBytes (mtTab x y)) _ _ _
  unfold mkBytes
  rw [if_neg (by show ¬ (mtTab x y).size > 16777216; omega)]
  exact wpAny_bind (wpAny_fresh (wpAny_pure (wpAny_pure q)))
theorem mtTab_size (x y : UInt8) : (mtTab x y).size = 256 := by simp [mtTab]
theorem bTranslate {b tb : Array UInt8} (htb : tb.size = 256) (hz : b.size ≤ 1000000) (q : ∀ t' tk', Q (.bytes (b.map fun c => tb.getD c.toNat c) t') (Sh s h tk')) :
    wpAny (model prog w) A (call (.builtin "bytes.translate") [.bytes b t, .bytes tb u]) Q E (Sh s h tk) := by
  refine wpAny_call_entry bt_slot (typeIs_bytes _ _ _) bt_entry ?_ (bt_args _ _)
  unfold Builtin.«bytes.translate» Builtin.Bytes.translateM
  dsimp only
  rw [if_neg (by simp), if_neg (by simp), if_neg (show ¬ ((Value.bytes tb u == Value.none) = true) from fun e => by have := beq_iff_eq.mp e; cases this)]
  refine wpAny_bind (wpAny_of_eq (a := tb) KBd.like_eq ?_)
  rw [if_neg (by simp [htb])]
  refine wpAny_bind (wpAny_pure ?_)
  refine wpAny_bind (wpAny_pure (a := #[]) ?_)
  refine wpAny_bind (wpAny_pure (a := b) ?_)
  have ef : (b.filter fun x => !(#[] : Array UInt8).contains x) = b := by simp
  dsimp only
  rw [ef]
  split
  · rename_i he
    have he' := beq_iff_eq.mp he
    refine wpAny_bind (wpAny_rule ?_)
    have q' := q t tk
    rw [he'] at q'
    exact wpAny_bind (wpAny_bind (wpAny_pure (wpAny_pure (wpAny_pure ⟨_, rfl, q'⟩))))
  · refine wpAny_bind ?_
    show wpAny _ _ (mkBytes _) _ _ _
    unfold mkBytes
    rw [if_neg (by simp; show b.size ≤ 16777216; omega)]
    exact wpAny_bind (wpAny_fresh (wpAny_pure (wpAny_pure ⟨_, rfl, q _ _⟩)))
end

-- NbI
theorem mt_meta : typeOf (.type "bytes") = pure (.type "type") := by rfl
theorem mt_find : findCls [] (.type "bytes") (.type "type") (Str.ofString "maketrans") = some (.val (.builtin "bytes.maketrans")) := by kernel_rfl
theorem inNil (h : Heap) : Frag.In [] h := fun _ _ e => by cases e
theorem mt_stub : Manifest.isStub "bytes" = false := by decide +kernel
theorem mt_hand : handedIn (.builtin "bytes.maketrans") = true := by k_handed
section
variable {prog : Program} {w : World} {A : Around} {E : Value → Shared → Prop} {s : Shared} {h : Heap} {tk : Nat} {t : Tok} {h₀ : Heap} {L : Addr} {m : Str → Option Value} {news : List (Addr × Obj)}
theorem bLen {b : Array UInt8} {Q : Value → Shared → Prop} (hz : b.size ≤ 1000000) (q : Q (.int (b.size : Nat) (tk + 1)) (Sh s h (tk + 1 + 1))) : wpAny (model prog w) A (call (.builtin "len") [.bytes b t]) Q E (Sh s h tk) :=
  len_bytes (s := Sh s h tk) (by omega) q
theorem gm1 {b : Array UInt8} : ∀ a, (Value.bytes b t) = .ref a → ∃ o, s.heap.get? a = some o ∧ o.dict = none := nofun
theorem gm2 {b : Array UInt8} : s.TypeIs (.bytes b t) "bytes" := PySem.W.typeIs_bytes s b t
theorem gmTranslate {b : Array UInt8} {pl : Sem Bool} {K : Value → List Value → Shared → Prop} (q : K (.builtin "bytes.translate") [.bytes b t] (Sh s h tk)) : GetM (model prog w) A (.bytes b t) (Str.ofString "translate") pl K E (Sh s h tk) :=
  @getMethod_builtin (model prog w) A E (Sh s h tk) (.bytes b t) "bytes" (Str.ofString "translate") "bytes.translate" pl (fun fx s₂ => K fx.1 fx.2 s₂) gm2 FB.plainAttrs_bytes bt_slot bt_type gm1 q
set_option maxRecDepth 100000 in
theorem gmTypeN {n : Str} {T : String} {f : Value} {pl : Sem Bool} {K : Value → List Value → Shared → Prop} (S : St h₀ L h m news) (hm : typeOf (.type T) = pure (.type "type")) (h2 : Manifest.isStub T = false) (h3 : findCls [] (.type T) (.type "type") n = some (.val f)) (h4 : handedIn f = true) (q : K f [] (Sh s h (tk + 1))) : GetM (model prog w) A (.type T) n pl K E (Sh s h tk) := by
  unfold GetM
  refine @method_type prog w A E (Sh s h tk) [] L h₀ m _ _ T pl _ S.F (inNil _) hm h2 h3 h4 ?_
  exact q
theorem gmMaketrans {pl : Sem Bool} {K : Value → List Value → Shared → Prop} (S : St h₀ L h m news) (q : K (.builtin "bytes.maketrans") [] (Sh s h (tk + 1))) : GetM (model prog w) A (.type "bytes") (Str.ofString "maketrans") pl K E (Sh s h tk) := by
  with_reducible refine gmTypeN S ?_ ?_ ?_ ?_ ?_ (f := .builtin "bytes.maketrans")
  · exact mt_meta
  · exact mt_stub
  · exact mt_find
  · exact mt_hand
  · exact q
end
set_option maxRecDepth 100000 in
set_option maxHeartbeats 4000000 in
theorem b64_spec {w : World} {A : Around} {s : Shared} {h : Heap} {tk : Nat} {b : Array UInt8} {x y : UInt8} {t u : Tok} {Q : Value → Shared → Prop} {E : Value → Shared → Prop} (G : Gd w h) (am : Am A 3) (hz : b.size ≤ 1000)
    (q : ∀ h' tk t', (∀ b o, h.get? b = some o → h'.get? b = some o) → Q (.bytes (((b2aEnd (b2aFold (b.toList.map (·.toNat)))).map (·.toUInt8)).toArray.map fun c => (mtTab x y).getD c.toNat c) t') (Sh s h' tk)) :
    wpAny (model prg w) A (call (.ref 102) [.bytes b t, .bytes #[x, y] u]) Q E (Sh s h tk) := by
  refine callD (binds := [(Str.ofString "s", .bytes b t), (Str.ofString "altchars", .bytes #[x, y] u)]) G (by rfl) (by rfl) am.dp (binds_K (s := Sh s h tk) G.k rfl (by rfl) rfl rfl rfl) (locs rfl) (fun h₁ tk₁ S => ?_) rfl rfl rfl (by decide)
  repeat walk_at "m:b"
  refine wpAny_Call_Name_kw ?_
  repeat walk_at "m:b"
  refine callWith_KW G.k (by rfl) (by rfl) ?_ (by rfl) (by rfl)
  repeat walk_at "m:b"
  refine kwAll_cons ?_
  repeat walk_at "m:b"
  refine kwAll_nil ?_
  repeat walk_at "m:b"
  refine b2a_spec (G.keeps S.F.keep) am.deeper hz (fun h₂ tk₂ t₂ st => ?_)
  replace S := S.stay st
  repeat walk_at "m:b"
  refine wpAny_isNot_plain rfl ?_
  rw [show (!(Value.bytes #[x, y] u == Value.none)) = true from by rw [beq_eq_false_iff_ne.mpr (fun e => by cases e)]; rfl]
  repeat walk_at "m:b"
  refine seq_any (wpAny_Assert_holds ?_)
  repeat walk_at "m:b"
  refine bLen (by simp) ?_
  repeat walk_at "m:b"
  refine ⟨by simp, ?_⟩
  repeat walk_at "m:b"
  rename_i S2
  refine gmTranslate ?_
  repeat walk_at "m:b"
  with_reducible refine gmMaketrans S2 ?_
  repeat walk_at "m:b"
  with_reducible refine kByt ?_
  repeat walk_at "m:b"
  refine sMaketrans ?_
  repeat walk_at "m:b"
  refine bTranslate (mtTab_size _ _) ?_ (fun t' tk' => ?_)
  · have h1 := (b2aFold_ok (b.toList.map (·.toNat))).2.2
    have : (b2aEnd (b2aFold (b.toList.map (·.toNat)))).length ≤ 100000 := by
      unfold b2aEnd
      have : (b2aFold (b.toList.map (·.toNat))).1.length ≤ 3000 := by simp at h1; omega
      split <;> (try split) <;> simp <;> omega
    simp; omega
  repeat walk_at "m:b"
  exact q _ _ _ S2.F.keep

-- NbJ
theorem CellsAre.fst {cm : Str → Option Value} {cs : List (Str × Addr)} {cells : List (Addr × Obj)} (h : CellsAre cm cs cells) : cells.map (·.1) = cs.map (·.2) := by
  induction h with
  | nil => rfl
  | cons _ _ ih => simp [ih]
section
variable {A : Around} {E : Value → Shared → Prop} {s : Shared} {h : Heap} {tk : Nat} {w : World} {Q : Value → Shared → Prop} {name qual : Str} {params : Arguments} {body : List Stmt} {scope : Scope} {dV kV doc pm cdv ct oc : Value} {an od : Option Addr} {osl : Array (Option Value)} {f : Addr} {pos : List Value} {kw : List (Str × Value)} {binds : List (Str × Value)}
/-- a def with cells is called -/
theorem callC (G : Gd w h) (ho : (KK w).lookup f = some ⟨oc, od, .func (fnOf name qual params body scope dV kV doc pm an cdv ct), osl⟩) (hcd : codeIn (KK w) cdv qual = true) (am : A.depth < recursionLimit)
    (hbind : BindsTo (Sh s h tk) (fnOf name qual params body scope dV kV doc pm an cdv ct) ⟨pos, kw⟩ binds)
    (hkind : (binds.all fun y => scope.names.lookup y.1 == some .local || scope.names.lookup y.1 == some .cell) = true) (hnd : ((cellsFrom 0 scope.names []).map (·.1)).Nodup)
    (q : ∀ h₁ tk cells, St h h.objs.size h₁ (bindL (envOfC qual scope h.objs.size f cdv).kindOf binds fun _ => none) cells → CellsAre (bindC (envOfC qual scope h.objs.size f cdv).kindOf binds fun _ => none) (cellsFrom (h.objs.size + 1) scope.names []) cells →
      wpAny (model prg w) (A.deeper (envX qual scope h.objs.size f cdv (cellsFrom (h.objs.size + 1) scope.names []))) (execs body (envX qual scope h.objs.size f cdv (cellsFrom (h.objs.size + 1) scope.names []))) (Fin Q) NoE (Sh s h₁ tk))
    (hco : scope.isCoroutine = false) (hgen : scope.isGenerator = false) (hk : scope.kind = .function) : wpAny (model prg w) A (call (.ref f) pos kw) Q E (Sh s h tk) := by
  refine wpAny_call (codeE ?_)
  obtain ⟨p, loose, mg, mb, T⟩ := G.t
  refine codeAny_call_function (s := Sh s h tk) (fd := fnOf name qual params body scope dV kV doc pm an cdv ct) (body := body) am (G.k _ _ ho) rfl hco hgen rfl (codeRec_of G.k hcd) (hbind _ _ _ _ ?_)
  refine wpAny_newFunctionEnv_cells hk (kindsX hkind _) fun env' he s' x => ?_
  subst he
  refine ⟨T.nolimit.keeps x.toInCall.keep, codeAny_func ?_⟩
  obtain ⟨h₁, tk', rfl, _⟩ := x.done
  obtain ⟨cells, NC, Y⟩ := Cl.news (h₀ := h) (L := h.objs.size) (Nat.le_refl _) fun n c hm => ⟨x.cell n c (lookup_of_mem_nodup (cellsFrom_names scope.names 0 (h.objs.size + 1) [] [] rfl ▸ hnd) hm), x.above n c hm⟩
  refine wpAny_mono (q h₁ tk' cells ⟨⟨x.toInCall.ns, x.toInCall.keep, x.toInCall.fresh⟩, NC, ?_⟩ Y) (fun fl s' hq => by cases fl <;> exact hq) fun _ _ e => e.elim
  rw [CellsAre.fst Y]
  exact List.pairwise_map.mpr x.apart
end
section
variable {M : Model} {A : Around} {E : Value → Shared → Prop} {s : Shared} {w : World} {h₀ h : Heap} {tk : Nat} {L a c : Addr} {m : Str → Option Value} {cn : Str} {cs : Scope} {ccd : Value} {cl : List (Str × Addr)} {x : Str} {pos : Pos} {v : Value} {news : List (Addr × Obj)} {o : Obj} {v₀ : Option Value} {g : Obj → List (Addr × Obj)}
theorem nmCell {Q : Value → Shared → Prop} (S : St h₀ L h m news) (hc : cl.lookup x = some c) (hm : (c, o) ∈ news) (hd : o.data = .cell (some v)) (q : Q v (Sh s h tk))
    (hk : cs.kind = .function) (hx : (envX cn cs L a ccd cl).kindOf x = some .cell) (hb : (x == ("__debug__" : Str)) = false) :
    wpAny M A (eval (.Name x pos) (envX cn cs L a ccd cl)) Q E (Sh s h tk) := nameX_C (s := Sh s h tk) S.N hc hm hd q hk hx hb
theorem stCell {Q : Unit → Shared → Prop} (S : St h₀ L h m news) (hc : cl.lookup x = some c) (U : ∀ o', Up c o o' news (g o')) (hd : o.data = .cell v₀)
    (q : ∀ h' o', o'.data = .cell (some v) → St h₀ L h' m (g o') → Q () (Sh s h' tk))
    (hk : cs.kind = .function) (hx : (envX cn cs L a ccd cl).kindOf x = some .cell) : wpAny M A (storeName (envX cn cs L a ccd cl) x v) Q E (Sh s h tk) :=
  wpAny_storeName_cell (s := Sh s h tk) hk hx hc ⟨o, S.get (U o).mem, hd⟩ fun h' hv hs => by
    obtain ⟨o', ho', hd'⟩ := hv
    exact q h' o' hd' (S.set (U o') hs ho')
end
section
variable {prog : Program} {w : World} {A : Around} {E : Value → Shared → Prop} {s : Shared} {h : Heap} {tk : Nat} {env : Env} {h₀ : Heap} {L : Addr} {m : Str → Option Value} {news : List (Addr × Obj)} {x : Str} {elt iter : Expr} {px pos : Pos} {scope : Scope} {Q : Value → Shared → Prop} {cl : List (Str × Addr)}
theorem walksLt {I : Addr} {fp wr : List Addr} {n : Nat} {P : Nat → Value → Prop} {Sv : Nat → Heap → Prop} (W : Walks prog w A I fp wr n P Sv) : Walks prog w A I fp wr n (fun i v => i < n ∧ P i v) Sv :=
  ⟨W.sub, W.frame, fun i s Q E hi st hQ => W.item i s Q E hi st fun v h' tk hP => hQ v h' tk ⟨hi, hP⟩, W.done, W.self⟩
/-- what a comprehension with free names runs over -/
noncomputable def CompSrcC (prog : Program) (w : World) (A : Around) (env : Env) (scope : Scope) (cl : List (Str × Addr)) (x : Str) (elt : Expr) (F : Value → Value → Prop) (Q : Value → Shared → Prop) (E : Value → Shared → Prop) (xv : Value) (s₁ : Shared) : Prop :=
  wpAny (model prog w) A (pyIter xv) (fun it s₂ => ∃ I fp wr n P St, it = .ref I ∧ Walks prog w A I fp wr n P St ∧ n ≤ sizeLine ∧ St 0 s₂.heap ∧ (∀ b ∈ fp, b < s₂.heap.objs.size) ∧
      QuietOnC prog w A env scope cl x [] elt wr P (fun _ => true) F s₂ ∧
      (∀ D h' tk ys (vs : List Value), s₂.heap.get? D = none → h'.IsList D ys → h'.PlainList D ys → vs.length = n → (∀ j v, vs[j]? = some v → P j v) → Paired F (vs.filter fun _ => true) ys.toList →
        (∀ b o, b ∉ wr → s₂.heap.get? b = some o → h'.get? b = some o) → Q (.ref D) { s₂ with heap := h', toks := tk })) E s₁
theorem compLC (F : Value → Value → Prop) (hclos : closureFor scope env = pure cl) (q : wpAny (model prog w) A (eval iter env) (fun xv s₁ => CompSrcC prog w A env scope cl x elt F Q E xv s₁) E s)
    (hcell : ∀ y ∈ scope.names, y.2 ≠ .cell) (hkind : scope.kind = .function)
    (hnames : ∀ y ∈ scope.names, y.2 = .local → scope.names.lookup y.1 = some .local) (hx : scope.names.lookup x = some .local) (hs : ∀ x, foldedSetIterable iter env x = pure x) :
    wpAny (model prog w) A (eval (.ListComp elt [⟨.Name x px, iter, [], 0⟩] scope pos) env) Q E s := wpAny_ListComp_free (fun _ => true) F hclos hcell hkind hnames hx q hs
theorem compWalkC {I : Addr} {io : Obj} {fp : List Addr} {n : Nat} {P : Nat → Value → Prop} {Sv : Nat → Heap → Prop} {F : Value → Value → Prop} (W : Walks prog w A I fp [I] n P Sv) (hz : n ≤ 1000000) (hst : Sv 0 h) (hfp : ∀ b ∈ fp, b < h.objs.size) (S : St h₀ L h m ((I, io) :: news))
    (turn : ∀ C i v s₃ h' tk' mC, P i v → h'.Ns C mC → mC x = some v → (∀ b o, b ≠ I → h.get? b = some o → h'.get? b = some o) → wpAny (model prog w) A (eval elt (compEnvC scope cl C env)) (EltEnd F v s₃ h') NoE (Sh s₃ h' tk'))
    (done : ∀ d h' tk' ys vs k, St h₀ L h' m ((d, listOf ys.toArray k) :: news) → vs.length = n → (∀ j v, vs[j]? = some v → P j v) → Paired F vs ys → Q (.ref d) (Sh s h' tk')) :
    ∃ I' fp wr n P St, Value.ref I = .ref I' ∧ Walks prog w A I' fp wr n P St ∧ n ≤ sizeLine ∧ St 0 (Sh s h tk).heap ∧ (∀ b ∈ fp, b < (Sh s h tk).heap.objs.size) ∧
      QuietOnC prog w A env scope cl x [] elt wr P (fun _ => true) F (Sh s h tk) ∧
      (∀ D h' tk' ys (vs : List Value), (Sh s h tk).heap.get? D = none → h'.IsList D ys → h'.PlainList D ys → vs.length = n → (∀ j v, vs[j]? = some v → P j v) → Paired F (vs.filter fun _ => true) ys.toList →
        (∀ b o, b ∉ wr → (Sh s h tk).heap.get? b = some o → h'.get? b = some o) → Q (.ref D) { (Sh s h tk) with heap := h', toks := tk' }) := by
  refine ⟨I, fp, [I], n, P, Sv, rfl, W, by show n ≤ 16777216; omega, hst, hfp, ⟨fun C i v s₃ m₃ E' _ _ _ _ _ _ => ?_, fun C i v s₃ m₃ E' _ hP _ hN hm hk _ => ?_⟩, ?_⟩
  · exact wpAny_pure ⟨rfl, s₃.heap, s₃.toks, rfl, fun _ _ e => e⟩
  · refine wpAny_mono (turn C i v s₃ s₃.heap s₃.toks m₃ hP hN hm (fun b o hb e => hk b o (fun hb' => hb (List.mem_singleton.mp hb')) e)) (fun y s₄ h₄ => ?_) fun _ _ e => e.elim
    obtain ⟨hF, h', tk', rfl, k⟩ := h₄
    exact ⟨hF, h', tk', rfl, k⟩
  · intro D h' tk' ys vs hD _ hpl hlen hP hF hk
    obtain ⟨k, hDk⟩ := hpl
    have hI := S.N (I, io) (.head _)
    have st : ∀ b o, b ≠ I → h.get? b = some o → h'.get? b = some o := fun b o hb e => hk b o (fun hb' => hb (List.mem_singleton.mp hb')) e
    have hDn : h.get? D = none := hD
    refine done D h' tk' ys.toList vs k ⟨⟨?_, fun b o e => st b o (fun eb => ?_) (S.F.keep b o e), S.F.above⟩, fun p hp => ?_, ?_⟩ hlen hP (Paired.all hF)
    · exact S.F.ns.at' fun o e => st _ o (fun eb => hI.2.1 eb.symm) e
    · have := hI.2.2; rw [eb] at e; rw [e] at this; cases this
    · rcases List.mem_cons.mp hp with rfl | hp
      · refine ⟨by rw [Array.toArray_toList]; exact hDk, fun e => ?_, ?_⟩
        · obtain ⟨oL, _, _, hL, _⟩ := S.F.ns
          dsimp only at e
          rw [e, hL] at hDn; cases hDn
        · cases q : h₀.get? D with
          | none => rfl
          | some o => have := S.F.keep _ _ q; rw [hDn] at this; cases this
      · have hp' := S.N p (.tail _ hp)
        refine ⟨st _ _ (fun e => ?_) hp'.1, hp'.2⟩
        exact (List.nodup_cons.mp S.D).1 (e ▸ List.mem_map_of_mem (f := (·.1)) hp)
    · rw [List.map_cons, List.nodup_cons]
      refine ⟨fun hm => ?_, S.drop.D⟩
      obtain ⟨p, hp, e⟩ := List.mem_map.mp hm
      have := (S.N p (.tail _ hp)).1
      rw [e, hDn] at this; cases this
theorem compListC {l : Addr} {vs : List Value} {F : Value → Value → Prop} (hh : A.handled = none) (S : St h₀ L h m news) (hl : h.IsList l vs.toArray) (hz : vs.length ≤ 1000000)
    (turn : ∀ C v s₃ h' tk' mC, v ∈ vs → h'.Ns C mC → mC x = some v → (∀ b o, h.get? b = some o → h'.get? b = some o) → wpAny (model prog w) A (eval elt (compEnvC scope cl C env)) (EltEnd F v s₃ h') NoE (Sh s₃ h' tk'))
    (done : ∀ d h' tk' ys k, St h₀ L h' m ((d, listOf ys.toArray k) :: news) → Paired F vs ys → Q (.ref d) (Sh s h' tk')) : CompSrcC prog w A env scope cl x elt F Q E (.ref l) (Sh s h tk) := by
  obtain ⟨ol, hol, _⟩ := id hl
  have hne : l ≠ h.objs.size := Nat.ne_of_lt (Heap.lt_size hol)
  refine wpAny_pyIter_list (s := Sh s h tk) hl ?_
  have W := Walks.list (prog := prog) (w := w) hh h.objs.size l hne vs.toArray
  have pk : ∀ b o, h.get? b = some o → (h.push { cls := .type "list_iterator", data := .fields #[.ref l, .int 0 0] }).get? b = some o := fun _ _ e => Heap.get?_push_of_some _ e
  refine compWalkC (h := h.push { cls := .type "list_iterator", data := .fields #[.ref l, .int 0 0] }) (tk := tk) W (by rw [List.size_toArray]; exact hz) ⟨⟨_, Heap.get?_push_size _ rfl, rfl, rfl⟩, hl.at fun o e => pk _ _ e⟩ ?_
    (S.one (o := { cls := .type "list_iterator", data := .fields #[.ref l, .int 0 0] }) pk (Heap.get?_push_size _ rfl) (fresh_size _)) ?_ ?_
  · intro b hb
    rw [Heap.size_push]
    rcases List.mem_cons.mp hb with e | hb
    · rw [e]; exact Nat.lt_succ_self _
    · rw [List.mem_singleton.mp hb]; exact Nat.lt_succ_of_lt (Heap.lt_size hol)
  · intro C i v s₃ h' tk' mC hP hN hm hk
    refine turn C v s₃ h' tk' mC (List.mem_of_getElem? (by simpa using hP)) hN hm (fun b o e => hk b o (fun eb => ?_) (pk b o e))
    have := Heap.lt_size e; rw [eb] at this; exact Nat.lt_irrefl _ this
  · intro d h' tk' ys vs' k S' hlen hP hF
    have hvs : vs' = vs := by
      apply List.ext_getElem?
      intro j
      by_cases hj : j < vs'.length
      · have := hP j vs'[j] (List.getElem?_eq_getElem hj)
        rw [List.getElem?_eq_getElem hj]
        simpa using this.symm
      · have hj2 : vs.length ≤ j := by rw [List.size_toArray] at hlen; omega
        rw [List.getElem?_eq_none (by omega), List.getElem?_eq_none hj2]
    subst hvs
    exact done d h' tk' ys k S' hF
theorem compRangeC {r : Addr} {n : Nat} {t u v : Tok} {F : Value → Value → Prop} (hh : A.handled = none) (S : St h₀ L h m news) (hr : IsRange h r 0 (n : Int) 1 t u v) (hz : n ≤ 1000000)
    (turn : ∀ C i t' s₃ h' tk' mC, i < n → h'.Ns C mC → mC x = some (.int (i : Nat) t') → (∀ b o, h.get? b = some o → h'.get? b = some o) → wpAny (model prog w) A (eval elt (compEnvC scope cl C env)) (EltEnd F (.int (i : Nat) t') s₃ h') NoE (Sh s₃ h' tk'))
    (done : ∀ d h' tk' ys vs k, St h₀ L h' m ((d, listOf ys.toArray k) :: news) → vs.length = n → (∀ (j : Nat) v, vs[j]? = some v → ∃ t, v = .int (j : Nat) t) → Paired F vs ys → Q (.ref d) (Sh s h' tk')) : CompSrcC prog w A env scope cl x elt F Q E (.ref r) (Sh s h tk) := by
  have hsz : Builtin.Range.rangeSize 0 (n : Int) 1 = ((n : Nat) : Int) := by rw [rangeSize_one]; split <;> omega
  refine wpAny_pyIter_range (s := Sh s h tk) hr (small_one (by omega) (by omega) (by omega) (by omega)) ?_
  rw [hsz]
  have W := walksLt (Walks.range (prog := prog) (w := w) hh h.objs.size 0 1 n)
  have pk : ∀ b o, h.get? b = some o → (h.push { cls := .type "range_iterator", data := .fields #[rawInt 0, rawInt ((n : Nat) : Int), rawInt 1] }).get? b = some o := fun _ _ e => Heap.get?_push_of_some _ e
  refine compWalkC (h := h.push { cls := .type "range_iterator", data := .fields #[rawInt 0, rawInt ((n : Nat) : Int), rawInt 1] }) (tk := tk) W hz ?_ ?_
    (S.one (o := { cls := .type "range_iterator", data := .fields #[rawInt 0, rawInt ((n : Nat) : Int), rawInt 1] }) pk (Heap.get?_push_size _ rfl) (fresh_size _)) ?_ ?_
  · show IsRangeIter _ _ _ _ _
    simpa using Heap.get?_push_size h (o := { cls := .type "range_iterator", data := .fields #[rawInt 0, rawInt ((n : Nat) : Int), rawInt 1] }) rfl
  · intro b hb
    rw [Heap.size_push, List.mem_singleton.mp hb]; exact Nat.lt_succ_self _
  · rintro C i v s₃ h' tk' mC ⟨hi, t', rfl⟩ hN hm hk
    have e1 : (0 + (i : Int) * 1) = (i : Int) := by omega
    rw [e1] at hm ⊢
    refine turn C i t' s₃ h' tk' mC hi hN hm (fun b o e => hk b o (fun eb => ?_) (pk b o e))
    have := Heap.lt_size e; rw [eb] at this; exact Nat.lt_irrefl _ this
  · intro d h' tk' ys vs' k S' hlen hP hF
    refine done d h' tk' ys vs' k S' hlen (fun j v hv => ?_) hF
    obtain ⟨_, t, e⟩ := hP j v hv
    exact ⟨t, by rw [e]; congr 1; omega⟩
theorem nmCC {M : Model} {C : Addr} {mC : Str → Option Value} {v : Value} {y : Str} (hN : h.Ns C mC) (hv : mC y = some v) (q : Q v (Sh s h tk)) (hk : scope.kind = .function) (hx : (compEnvC scope cl C env).kindOf y = some .local) (hd : (y == ("__debug__" : Str)) = false) :
    wpAny M A (eval (.Name y pos) (compEnvC scope cl C env)) Q E (Sh s h tk) := wpAny_Name (wpAny_loadName_local (s := Sh s h tk) (env := compEnvC scope cl C env) hk hx hN hv q) hd
theorem nmCF {M : Model} {C c : Addr} {o : Obj} {v : Value} {y : Str} (hc : cl.lookup y = some c) (ho : h.get? c = some o) (hv : o.data = .cell (some v)) (q : Q v (Sh s h tk)) (hk : scope.kind = .function) (hx : (compEnvC scope cl C env).kindOf y = some .cell) (hd : (y == ("__debug__" : Str)) = false) :
    wpAny M A (eval (.Name y pos) (compEnvC scope cl C env)) Q E (Sh s h tk) := wpAny_Name (wpAny_loadName_cell (s := Sh s h tk) (env := compEnvC scope cl C env) hk hx hc ⟨o, ho, hv⟩ q) hd
theorem lLenB {l : Addr} {vs : List Value} (hl : h.IsList l vs.toArray) (hz : vs.length ≤ 1000000) (q : Q (.int (vs.length : Nat) (tk + 1)) (Sh s h (tk + 1 + 1))) : wpAny (model prog w) A (call (.builtin "len") [.ref l]) Q E (Sh s h tk) :=
  Calls.call_len_list (s := Sh s h tk) hl (by rw [List.size_toArray]; omega) (by rw [List.size_toArray]; exact q)
theorem nRange {n : Int} {t : Tok} (S : St h₀ L h m news) (q : ∀ d h' u v tk', St h₀ L h' m ((d, { cls := .type "range", data := .fields #[.int 0 u, .int n t, .int 1 v] }) :: news) → IsRange h' d 0 n 1 u t v → Q (.ref d) (Sh s h' tk')) :
    wpAny (model prog w) A (call (.type "range") [.int n t]) Q E (Sh s h tk) :=
  call_range_1 (s := Sh s h tk) (q _ _ _ _ _ (S.one (o := { cls := .type "range", data := .fields #[.int 0 tk, .int n t, .int 1 (tk + 1)] }) (fun _ _ e => Heap.get?_push_of_some _ e) (Heap.get?_push_size _ rfl) (fresh_size _)) (IsRange.new ..))
end
section
variable {w : World} {A : Around} {E : Value → Shared → Prop} {s : Shared} {h : Heap} {tk : Nat} {h₀ : Heap} {L L' f : Addr} {a b n : Int} {t u : Tok} {Q : Value → Shared → Prop} {k : Nat} {cn : Str} {cs : Scope} {cdv : Value} {cl : List (Str × Addr)} {prog : Program}
theorem iFdivG (am : Am A (k + 1)) (G : Gd w h) (hb : 0 < b) (q : Q (.int (a / b) tk) (Sh s h (tk + 1))) (hg : cs.isGenerator = false := by rfl) (hc : cs.isCoroutine = false := by rfl) :
    wpAny (model prg w) (A.deeper (envX cn cs L' f cdv cl)) (binaryOp .FloorDiv (.int a t) (.int b u)) Q E (Sh s h tk) := by
  obtain ⟨p, loose, mg, mb, T⟩ := G.t
  obtain ⟨l, hl⟩ := am.fr
  refine floordiv_int (s := Sh s h tk) (by omega) ?_ (.inr (PylongRoom.of T.nolimit (by have := am.hd; show A.depth + 1 + 100 < 1000; omega) (SeerAt.of G.ns rfl (Around.frames_deeper hl) hg hc rfl rfl)))
  rw [Int.fdiv_eq_ediv_of_nonneg _ (by omega)]
  exact q
theorem iMul (hm : IntMulOk a b) (q : Q (.int (a * b) tk) (Sh s h (tk + 1))) : wpAny (model prog w) A (binaryOp .Mult (.int a t) (.int b u)) Q E (Sh s h tk) := PyProof.Rows.mul_int (s := Sh s h tk) q hm
theorem iPow (hn : 0 ≤ n) (hn2 : n ≤ 1000) (ha : a.natAbs < 2 ^ 64) (q : Q (.int (a ^ n.toNat) tk) (Sh s h (tk + 1))) : wpAny (model prog w) A (binaryOp .Pow (.int a t) (.int n u)) Q E (Sh s h tk) := pow_int_small (s := Sh s h tk) hn (by omega) ha q
end

-- NbK
local macro_rules | `(tactic| walk_at "m:d") => `(tactic| first
  | walk_at "m:b"
  | ((with_reducible refine' nmCell ?sa ?sb ?sc ?sd ?se ?sf ?sg ?sh); (case sf => rfl); (case sg => rfl); (case sh => decide); (case sa => with_reducible assumption); (case sb => rfl); (case sc => walk_at "m:mem"); (case sd => assumption))
  | ((with_reducible refine' stCell ?sa ?sb ?sc ?sd ?se ?sf ?sg); (case sf => rfl); (case sg => rfl); (case sa => with_reducible assumption); (case sb => rfl); (case sc => (intro o'; walk_at "m:up")); (case sd => assumption); intro h' o' hd' S)
  | ((with_reducible refine iMul ?_ ?_); first | exact .of_right (by decide) | exact .of_left (by decide)))
theorem paired_range {g : Nat → Nat} {vs ys : List Value} (hP : Paired (fun v y => ∃ (k : Nat) (t t' : Tok), v = .int (k : Nat) t ∧ y = .int ((g k : Nat) : Int) t') vs ys) :
    ∀ o : Nat, (∀ (j : Nat) v, vs[j]? = some v → ∃ t, v = .int ((o + j : Nat) : Int) t) → NatsAre ys ((List.range' o vs.length).map g) := by
  induction hP with
  | nil => intro o _; exact .nil
  | @cons v y vs ys hF hP ih =>
    intro o hv
    obtain ⟨k, t, t', rfl, rfl⟩ := hF
    obtain ⟨t2, e⟩ := hv 0 _ rfl
    injection e with e1 _
    have : k = o := by omega
    subst this
    rw [List.length_cons, List.range'_succ, List.map_cons]
    refine .cons _ _ (ih (k + 1) fun j v hj => ?_)
    obtain ⟨t, e⟩ := hv (j + 1) v hj
    exact ⟨t, by rw [e]; congr 1; omega⟩
set_option maxRecDepth 100000 in
set_option maxHeartbeats 4000000 in
theorem octets_spec {w : World} {A : Around} {s : Shared} {h : Heap} {tk : Nat} {l : Addr} {vs : List Value} {fs : List Nat} {Q : Value → Shared → Prop} {E : Value → Shared → Prop} (G : Gd w h) (am : Am A 1)
    (hl : h.IsList l vs.toArray) (hi : NatsAre vs fs) (hn : fs.length ≤ 16)
    (q : ∀ h' tk t', (∀ b o, h.get? b = some o → h'.get? b = some o) → Q (.bytes ((octF fs).map (·.toUInt8)).toArray t') (Sh s h' tk)) :
    wpAny (model prg w) A (call (.ref 114) [.ref l]) Q E (Sh s h tk) := by
  refine callC (binds := [(Str.ofString "figures", .ref l)]) G (by rfl) (by rfl) am.dp (BindsTo.of_eq rfl) (by rfl) (by decide) (fun h₁ tk₁ cells S Y => ?_) rfl rfl rfl
  obtain ⟨o2, o1, rfl, hd2, hd1⟩ := CellsAre.two (n := Str.ofString "size") (n' := Str.ofString "number") (c := h.objs.size + 1 + 1) (c' := h.objs.size + 1) Y
  have hvl := hi.length
  have hd2' : o2.data = .cell none := hd2
  have hd1' : o1.data = .cell none := hd1
  clear hd1 hd2 Y
  repeat walk_at "m:d"
  rename_i h₂ o1a hd1a S₂
  refine seq_any (For_invV h rfl rfl ?_ (hE := PassesOwn.never))
  walk_at "m:d"
  refine iter_list (fun i m nw => m (Str.ofString "figures") = some (.ref l) ∧ ∃ o1 t, o1.data = .cell (some (.int (numF (fs.take i) : Nat) t)) ∧ nw = [(h.objs.size + 1 + 1, o2), (h.objs.size + 1, o1)]) am.hh (stays_list S₂.F.keep hl) S₂ ⟨rfl, o1a, _, hd1a, rfl⟩ (.inl (let ⟨o, ho, _⟩ := hl; ⟨o, ho⟩)) ?_ ?_
  · rintro i v m₁ news₁ h₃ tk₃ it hv ⟨hf, o1, t1, hd, rfl⟩ S
    obtain ⟨n, hnn⟩ : ∃ n, fs[i]? = some n := by
      have : i < fs.length := by rw [← hvl]; exact (List.getElem?_eq_some_iff.mp hv).1
      exact ⟨_, List.getElem?_eq_getElem this⟩
    obtain ⟨t, ht⟩ := IntsAre.get hi i (n : Int) (by rw [List.getElem?_map, hnn]; rfl)
    obtain rfl : v = .int n t := by rw [hv] at ht; exact Option.some.inj ht
    have hstep : numF (fs.take (i + 1)) = numF (fs.take i) * 64 + n := by rw [List.take_add_one, hnn]; simp [numF]
    repeat walk_at "m:d"
    rename_i h₄ o4 hd4 S₄
    rw [show ((numF (fs.take i) : Nat) : Int) * 64 + (n : Int) = ((numF (fs.take (i + 1)) : Nat) : Int) by rw [hstep]; push_cast; rfl] at hd4
    exact TurnEnd.next S₄ ⟨lk_ne (by decide) hf, o4, _, hd4, rfl⟩
  · rintro m₁ news₁ h₃ tk₃ ⟨hf, o1, t1, hd, rfl⟩ S
    rw [hvl, List.take_length] at hd
    repeat walk_at "m:d"
    refine lLenB (stays_list S.F.keep hl) (by omega) ?_
    repeat walk_at "m:d"
    have e1 : ((vs.length : Nat) : Int) * 6 / 8 = ((fs.length * 6 / 8 : Nat) : Int) := by rw [hvl]; omega
    rename_i h₄ o4 hd4 S₄
    rw [e1] at hd4
    refine lLenB (stays_list S₄.F.keep hl) (by omega) ?_
    repeat walk_at "m:d"
    refine iPow (by omega) (by omega) (by decide) ?_
    have e2 : (2 : Int) ^ (((vs.length : Nat) : Int) * 6 - ((fs.length * 6 / 8 : Nat) : Int) * 8).toNat = ((2 ^ (fs.length * 6 - fs.length * 6 / 8 * 8) : Nat) : Int) := by
      rw [show (((vs.length : Nat) : Int) * 6 - ((fs.length * 6 / 8 : Nat) : Int) * 8).toNat = fs.length * 6 - fs.length * 6 / 8 * 8 by omega]; push_cast; rfl
    rw [e2]
    refine iFdiv am G S₄ (Int.natCast_pos.mpr (Nat.two_pow_pos _)) ?_
    rw [← Int.natCast_ediv]
    generalize hN : numF fs / 2 ^ (fs.length * 6 - fs.length * 6 / 8 * 8) = N
    generalize hZ : fs.length * 6 / 8 = Z at *
    repeat walk_at "m:d"
    rename_i h₅ o5 hd5 S₅
    refine compLC (cl := [(Str.ofString "size", h.objs.size + 1 + 1), (Str.ofString "number", h.objs.size + 1)]) (fun v y => ∃ (k : Nat) (t t' : Tok), v = .int (k : Nat) t ∧ y = .int ((N / 256 ^ (Z - 1 - k) % 256 : Nat) : Int) t') (by rfl) ?_ (by decide) rfl (by decide) rfl (by intro _; rfl)
    repeat walk_at "m:d"
    refine nRange S₅ (fun d h₆ u₆ v₆ tk₆ S₆ hr => ?_)
    refine compRangeC am.hh S₆ hr (by omega) ?_ ?_
    · intro C i t' s₃ h' tk' mC hi' hN' hm hk
      have g2 := hk _ _ (S₆.get (.tail _ (.head _)))
      have g1 := hk _ _ (S₆.get (.tail _ (.tail _ (.head _))))
      repeat walk_at "m:d"
      refine nmCF (by rfl) g1 hd5 ?_ rfl (by rfl) (by decide)
      repeat walk_at "m:d"
      refine nmCF (by rfl) g2 hd4 ?_ rfl (by rfl) (by decide)
      repeat walk_at "m:d"
      refine nmCC hN' hm ?_ rfl (by rfl) (by decide)
      repeat walk_at "m:d"
      refine iPow (by omega) (by omega) (by decide) ?_
      have e3 : (256 : Int) ^ ((Z : Int) - 1 - (i : Int)).toNat = ((256 ^ (Z - 1 - i) : Nat) : Int) := by
        rw [show ((Z : Int) - 1 - (i : Int)).toNat = Z - 1 - i by omega]; push_cast; rfl
      rw [e3]
      refine iFdivG am (G.keeps fun b o e => hk b o (S₆.F.keep b o e)) (Int.natCast_pos.mpr (Nat.pow_pos (by decide))) ?_
      rw [← Int.natCast_ediv]
      repeat walk_at "m:d"
      exact EltEnd.same ⟨i, _, _, rfl, by rw [Int.natCast_emod]; rfl⟩
    · intro d' h₇ tk₇ ys vs' k S₇ hlen hvs hP
      have hY := paired_range hP 0 (fun j v hv => by obtain ⟨t, e⟩ := hvs j v hv; exact ⟨t, by rw [e]; congr 1; omega⟩)
      have hylen := hY.length
      simp only [List.length_map, List.length_range', hlen] at hylen
      have hO : octF fs = (List.range' 0 vs'.length).map fun k => N / 256 ^ (Z - 1 - k) % 256 := by
        unfold octF; rw [hZ, hN, hlen, List.range_eq_range']
      rw [← hO] at hY
      repeat walk_at "m:d"
      refine call_bytes_ints (s := Sh s h₇ tk₇) ⟨_, S₇.get (.head _), rfl, k, rfl⟩ hY ?_ (by show _ ≤ 16777216; omega) am.hh (fun h'' t'' k'' st => ?_)
      · intro n hn
        obtain ⟨m, hm, rfl⟩ := List.mem_map.mp hn
        rw [hO] at hm
        obtain ⟨k, _, rfl⟩ := List.mem_map.mp hm
        omega
      · have e : byteArr ((octF fs).map fun n : Nat => (n : Int)) = ((octF fs).map (·.toUInt8)).toArray := by
          simp [byteArr]
        rw [e]
        exact Fin.ret (q h'' k'' t'' (fun b o e => st b o (S₇.F.keep b o e)))

-- NbL
noncomputable def alpL : List Nat := [65, 66, 67, 68, 69, 70, 71, 72, 73, 74, 75, 76, 77, 78, 79, 80, 81, 82, 83, 84, 85, 86, 87, 88, 89, 90, 97, 98, 99, 100, 101, 102, 103, 104, 105, 106, 107, 108, 109, 110, 111, 112, 113, 114, 115, 116, 117, 118, 119, 120, 121, 122, 48, 49, 50, 51, 52, 53, 54, 55, 56, 57]
theorem c_alp : Str.ofString "ABCDEFGHIJKLMNOPQRSTUVWXYZabcdefghijklmnopqrstuvwxyz0123456789" = tx alpL := by decide +kernel
noncomputable def alp (x y f : Nat) : Nat := (alpL ++ [x, y]).getD f 0
theorem alp_get (x y : Nat) {f : Nat} (h : f < 64) : (alpL ++ [x, y])[f]? = some (alp x y f) := by
  have : f < (alpL ++ [x, y]).length := by simpa [alpL] using h
  unfold alp
  rw [List.getD_eq_getElem?_getD, List.getElem?_eq_getElem this]; rfl
theorem NatsAre.split {vs : List Value} {fs : List Nat} {c : Nat} (h : NatsAre vs (fs ++ [c])) : ∃ vs' t, vs = vs' ++ [Value.int (c : Nat) t] ∧ NatsAre vs' fs := by
  induction fs generalizing vs with
  | nil =>
    cases h with
    | cons n t h => cases h; exact ⟨[], t, rfl, .nil⟩
  | cons d fs ih =>
    cases h with
    | cons n t h =>
      obtain ⟨vs', t', rfl, hv⟩ := ih h
      exact ⟨_ :: vs', t', rfl, .cons _ _ hv⟩
theorem NatsAre.mem {vs : List Value} {fs : List Nat} (h : NatsAre vs fs) {v : Value} (hv : v ∈ vs) : ∃ f t, v = Value.int (f : Nat) t ∧ f ∈ fs := by
  induction fs generalizing vs with
  | nil => cases h; cases hv
  | cons l ls ih =>
    cases h with
    | cons n t h =>
      rcases List.mem_cons.mp hv with rfl | hv
      · exact ⟨l, t, rfl, .head _⟩
      · obtain ⟨x, t, e, hx⟩ := ih h hv; exact ⟨x, t, e, .tail _ hx⟩
theorem NatsAre.paired {vs ys : List Value} {fs : List Nat} {g : Nat → Nat} (h : NatsAre vs fs) (hP : Paired (fun v y => ∃ (f : Nat) (t t' : Tok), v = Value.int (f : Nat) t ∧ y = Value.str (tx [g f]) t') vs ys) : Chars ys (fs.map g) := by
  induction fs generalizing vs ys with
  | nil => cases h; cases hP; exact .nil
  | cons l ls ih =>
    cases h with
    | cons n t h =>
      cases hP with
      | cons hF hP =>
        obtain ⟨a, t1, t2, e1, rfl⟩ := hF
        injection e1 with ha _
        have : a = l := by dsimp only at ha; omega
        subst this
        exact .cons _ _ (ih h hP)
theorem lMul1 {prog : Program} {w : World} {A : Around} {E : Value → Shared → Prop} {s : Shared} {h : Heap} {tk : Nat} {h₀ : Heap} {L D : Addr} {m : Str → Option Value} {news : List (Addr × Obj)} {v : Value} {x : Int} {u : Tok} {Q : Value → Shared → Prop}
    (S : St h₀ L h m news) (hm : (D, listOf [v].toArray 0) ∈ news) (h0 : 0 ≤ x) (h1 : x < 100) (q : ∀ d h', St h₀ L h' m ((d, listOf (List.replicate x.toNat v).toArray 0) :: news) → Q (.ref d) (Sh s h' tk)) :
    wpAny (model prog w) A (binaryOp .Mult (.ref D) (.int x u)) Q E (Sh s h tk) := by
  refine mul_list (s := Sh s h tk) S.F S.N (S.get hm) (by omega) (by omega) (by simp; omega) (fun h' F' N' => ?_)
  have e : List.foldl (fun x1 x2 => x1 ++ x2) #[] (List.replicate (if [v].toArray.isEmpty = true then 0 else x.toNat) [v].toArray) = (List.replicate x.toNat v).toArray := by
    rw [if_neg (by simp)]
    have key : ∀ (n : Nat) (acc : List Value), List.foldl (fun x1 x2 => x1 ++ x2) acc.toArray (List.replicate n [v].toArray) = (acc ++ List.replicate n v).toArray := by
      intro n
      induction n with
      | zero => intro acc; simp
      | succ n ih =>
        intro acc
        rw [List.replicate_succ, List.foldl_cons, List.append_toArray, ih, List.replicate_succ]
        simp
    have := key x.toNat []
    simpa using this
  rw [e] at N'
  refine q _ h' ⟨F', N', ?_⟩
  rw [List.map_cons, List.nodup_cons]
  refine ⟨fun hm => ?_, S.D⟩
  obtain ⟨p, hp, e⟩ := List.mem_map.mp hm
  have := Heap.lt_size (S.N p hp).1
  exact absurd (e ▸ this) (Nat.lt_irrefl _)
section
variable {prog : Program} {w : World} {A : Around} {E : Value → Shared → Prop} {s : Shared} {h : Heap} {tk : Nat} {env : Env} {h₀ : Heap} {m : Str → Option Value} {news : List (Addr × Obj)} {x y : Str} {elt iter : Expr} {px py pos spos : Pos} {scope : Scope} {Q : Flow → Shared → Prop} {cl : List (Str × Addr)}
/-- what a comprehension that is stored at once runs over -/
noncomputable def CompSrcS (prog : Program) (w : World) (A : Around) (env : Env) (scope : Scope) (cl : List (Str × Addr)) (x y : Str) (elt : Expr) (F : Value → Value → Prop) (Q : Flow → Shared → Prop) (E : Value → Shared → Prop) (xv : Value) (s₁ : Shared) : Prop :=
  wpAny (model prog w) A (pyIter xv) (fun it s₂ => ∃ I fp wr n P St m, it = .ref I ∧ Walks prog w A I fp wr n P St ∧ n ≤ sizeLine ∧ St 0 s₂.heap ∧ (∀ b ∈ fp, b < s₂.heap.objs.size) ∧
      env.locals ∉ wr ∧ s₂.heap.Ns env.locals m ∧ QuietOnC prog w A env scope cl x [] elt wr P (fun _ => true) F s₂ ∧
      (∀ D h' tk ys (vs : List Value), s₂.heap.get? D = none → h'.IsList D ys → h'.PlainList D ys → vs.length = n → (∀ j v, vs[j]? = some v → P j v) → Paired F (vs.filter fun _ => true) ys.toList →
        h'.Ns env.locals (fun z => if z = y then some (.ref D) else m z) → (∀ b o, b ≠ env.locals → b ∉ wr → s₂.heap.get? b = some o → h'.get? b = some o) → Q .next { s₂ with heap := h', toks := tk })) E s₁
theorem seq_CompC {rest : List Stmt} (F : Value → Value → Prop)
    (hsw : swapsWith (.ListComp elt [⟨.Name x px, iter, [], 0⟩] scope pos) (some (.Name y py)) spos.line env = pure true)
    (hclos : closureFor scope env = pure cl) (hcell : ∀ z ∈ scope.names, z.2 ≠ .cell) (hkind : scope.kind = .function)
    (hnames : ∀ z ∈ scope.names, z.2 = .local → scope.names.lookup z.1 = some .local) (hx : scope.names.lookup x = some .local)
    (hy : env.kindOf y = some .local) (hp : (env.scope.kind == .class || (env.scope.kind == .module && env.locals != env.globals)) = false) (hs : ∀ x, foldedSetIterable iter env x = pure x)
    (q : wpAny (model prog w) A (eval iter env) (fun xv s₁ => CompSrcS prog w A env scope cl x y elt F (Cont (model prog w) A rest env Q E) E xv s₁) E s) :
    wpAny (model prog w) A (execs (.Assign [.Name y py] (.ListComp elt [⟨.Name x px, iter, [], 0⟩] scope pos) spos :: rest) env) Q E s :=
  seq_any (wpAny_Assign_ListComp_free (fun _ => true) F hsw hclos hcell hkind hnames hx hy hp q hs)
theorem compListS {l : Addr} {vs : List Value} {F : Value → Value → Prop} (hh : A.handled = none) (S : St h₀ env.locals h m news) (hl : h.IsList l vs.toArray) (hz : vs.length ≤ 1000000)
    (turn : ∀ C v s₃ h' tk' mC, v ∈ vs → h'.Ns C mC → mC x = some v → (∀ b o, h.get? b = some o → h'.get? b = some o) → wpAny (model prog w) A (eval elt (compEnvC scope cl C env)) (EltEnd F v s₃ h') NoE (Sh s₃ h' tk'))
    (done : ∀ d h' tk' ys k, St h₀ env.locals h' (upd m y (.ref d)) ((d, listOf ys.toArray k) :: news) → Paired F vs ys → Q .next (Sh s h' tk')) : CompSrcS prog w A env scope cl x y elt F Q E (.ref l) (Sh s h tk) := by
  obtain ⟨ol, hol, _⟩ := id hl
  have hne : l ≠ h.objs.size := Nat.ne_of_lt (Heap.lt_size hol)
  refine wpAny_pyIter_list (s := Sh s h tk) hl ?_
  have W := Walks.list (prog := prog) (w := w) hh h.objs.size l hne vs.toArray
  have pk : ∀ b o, h.get? b = some o → (h.push { cls := .type "list_iterator", data := .fields #[.ref l, .int 0 0] }).get? b = some o := fun _ _ e => Heap.get?_push_of_some _ e
  have hI : ∀ b o, h.get? b = some o → b ≠ h.objs.size := fun b o e eb => by have := Heap.lt_size e; rw [eb] at this; exact Nat.lt_irrefl _ this
  refine ⟨_, _, _, _, _, _, m, rfl, W, (by rw [List.size_toArray]; show _ ≤ 16777216; omega), ⟨⟨_, Heap.get?_push_size _ rfl, rfl, rfl⟩, hl.at fun o e => pk _ _ e⟩, ?_, ?_, ?_, ⟨fun C i v s₃ m₃ E' _ _ _ _ _ _ => ?_, fun C i v s₃ m₃ E' _ hP _ hN hm hk _ => ?_⟩, ?_⟩
  · intro b hb
    show b < (h.push _).objs.size
    rw [Heap.size_push]
    rcases List.mem_cons.mp hb with e | hb
    · rw [e]; exact Nat.lt_succ_self _
    · rw [List.mem_singleton.mp hb]; exact Nat.lt_succ_of_lt (Heap.lt_size hol)
  · intro hb
    exact Nat.lt_irrefl _ (List.mem_singleton.mp hb ▸ S.F.ns.lt)
  · exact S.F.ns.at' fun o e => pk _ o e
  · exact wpAny_pure ⟨rfl, s₃.heap, s₃.toks, rfl, fun _ _ e => e⟩
  · have hv : v ∈ vs := List.mem_of_getElem? (by simpa using hP)
    refine wpAny_mono (turn C v s₃ s₃.heap s₃.toks m₃ hv hN hm (fun b o e => hk b o (fun hb => hI b o e (List.mem_singleton.mp hb)) (pk b o e))) (fun y s₄ h₄ => ?_) fun _ _ e => e.elim
    obtain ⟨hF, h', tk', rfl, k⟩ := h₄
    exact ⟨hF, h', tk', rfl, k⟩
  · intro D h' tk' ys vs' hD _ hpl hlen hP hF hns hk
    have hvs : vs' = vs := by
      apply List.ext_getElem?
      intro j
      by_cases hj : j < vs'.length
      · have := hP j vs'[j] (List.getElem?_eq_getElem hj)
        rw [List.getElem?_eq_getElem hj]
        simpa using this.symm
      · have hj2 : vs.length ≤ j := by rw [List.size_toArray] at hlen; omega
        rw [List.getElem?_eq_none (by omega), List.getElem?_eq_none hj2]
    subst hvs
    obtain ⟨k, hDk⟩ := hpl
    have st : ∀ b o, b ≠ env.locals → h.get? b = some o → h'.get? b = some o := fun b o hb e => hk b o hb (fun hb' => hI b o e (List.mem_singleton.mp hb')) (pk b o e)
    have hDn : h.get? D = none := by
      cases e : h.get? D with
      | none => rfl
      | some o => have := pk _ _ e; exact absurd (hD.symm.trans this) (by simp)
    refine done D h' tk' ys.toList k ⟨⟨hns, fun b o e => st b o (fun eb => ?_) (S.F.keep b o e), S.F.above⟩, fun p hp => ?_, ?_⟩ (Paired.all hF)
    · have := Nat.lt_of_lt_of_le (Heap.lt_size e) S.F.above; rw [eb] at this; exact Nat.lt_irrefl _ this
    · rcases List.mem_cons.mp hp with rfl | hp
      · refine ⟨by rw [Array.toArray_toList]; exact hDk, fun e => ?_, ?_⟩
        · obtain ⟨oL, _, _, hL, _⟩ := S.F.ns
          dsimp only at e
          rw [e, hL] at hDn; cases hDn
        · cases q : h₀.get? D with
          | none => rfl
          | some o => have := S.F.keep _ _ q; rw [hDn] at this; cases this
      · have hp' := S.N p hp
        exact ⟨st _ _ hp'.2.1 hp'.1, hp'.2⟩
    · rw [List.map_cons, List.nodup_cons]
      refine ⟨fun hm => ?_, S.D⟩
      obtain ⟨p, hp, e⟩ := List.mem_map.mp hm
      have := (S.N p hp).1
      rw [e, hDn] at this; cases this
end
set_option maxRecDepth 100000 in
set_option maxHeartbeats 4000000 in
theorem signs_spec {w : World} {A : Around} {s : Shared} {h : Heap} {tk : Nat} {l : Addr} {vs : List Value} {fs : List Nat} {x y : Nat} {t : Tok} {Q : Value → Shared → Prop} {E : Value → Shared → Prop} (G : Gd w h) (am : Am A 1)
    (hl : h.IsList l vs.toArray) (hi : NatsAre vs fs) (hf : ∀ f ∈ fs, f < 64) (hne : fs ≠ []) (hn : fs.length ≤ 16)
    (q : ∀ h' tk r us k, (∀ b o, h.get? b = some o → h'.get? b = some o) → h'.get? r = some (listOf us.toArray k) → h.get? r = none → Chars us (sgF (alp x y) fs) → Q (.ref r) (Sh s h' tk)) :
    wpAny (model prg w) A (call (.ref 119) [.ref l, .str (tx [x, y]) t]) Q E (Sh s h tk) := by
  refine callC (binds := [(Str.ofString "figures", .ref l), (Str.ofString "two", .str (tx [x, y]) t)]) G (by rfl) (by rfl) am.dp (BindsTo.of_eq rfl) (by rfl) (by decide) (fun h₁ tk₁ cells S Y => ?_) rfl rfl rfl
  obtain ⟨o1, rfl, hd1⟩ := CellsAre.one (n := Str.ofString "alphabet") (c := h.objs.size + 1) Y
  have hvl := hi.length
  have hd1' : o1.data = .cell none := hd1
  clear hd1 Y
  walk_at "m:d"
  walk_at "m:d"
  refine kC c_alp ?_
  have hal : alpL.length = 62 := rfl
  repeat walk_at "m:d"
  rename_i h₂ o2 hd2 S₂
  refine lLenB (stays_list S₂.F.keep hl) (by omega) ?_
  repeat walk_at "m:d"
  rename_i h₃ S₃
  obtain ⟨fs', c, rfl⟩ : ∃ fs' c, fs = fs' ++ [c] := by
    rcases List.eq_nil_or_concat fs with h | ⟨a, b, h⟩
    · exact absurd h hne
    · exact ⟨a, b, by rw [h, List.concat_eq_append]⟩
  obtain ⟨vs', tc, rfl, hi'⟩ := NatsAre.split hi
  have hvl' := hi'.length
  have hc64 : c < 64 := hf c (by simp)
  simp only [List.length_append, List.length_cons, List.length_nil] at hn hvl
  refine seq_CompC (cl := [(Str.ofString "alphabet", h.objs.size + 1)]) (fun v y' => ∃ (f : Nat) (t t' : Tok), v = Value.int (f : Nat) t ∧ y' = Value.str (tx [alp x y f]) t') (by rfl) (by rfl) (by decide) rfl (by decide) rfl (by rfl) (by rfl) (by intro _; rfl) ?_
  repeat walk_at "m:d"
  refine slL S₃ (stays_list S₃.F.keep hl) .none (.int _ _) (by simp; omega) (fun d h₄ S₄ => ?_) (by intro _; rfl) (by intro _; rfl)
  have hcut : cut (vs' ++ [Value.int (c : Nat) tc]) none (some (-1)) = vs' := by
    unfold cut
    simp only [Option.elim, List.drop_zero, Nat.sub_zero]
    rw [show (-1 : Int) = -((1 : Nat) : Int) from rfl, clipAt_neg _ _ (by decide)]
    simp
  rw [hcut] at S₄
  refine compListS am.hh S₄ ⟨_, S₄.get (.head _), rfl, 0, rfl⟩ (by omega) ?_ ?_
  · intro C v s₃ h' tk' mC hv hN hm hk
    obtain ⟨f, t', rfl, hf'⟩ := hi'.mem hv
    have hf64 : f < 64 := hf f (by simp [hf'])
    have g1 := hk _ _ (S₄.get (.tail _ (.head _)))
    repeat walk_at "m:d"
    refine nmCF (by rfl) g1 hd2 ?_ rfl (by rfl) (by decide)
    refine nmCC hN hm ?_ rfl (by rfl) (by decide)
    refine sItem (i := (f : Int)) (by rw [Int.toNat_natCast]; exact alp_get x y hf64) (by omega) (by simp [hal]) ?_ (by rfl) (by intro _; rfl)
    exact EltEnd.same ⟨f, _, _, rfl, rfl⟩
  · intro d2 h₅ tk₅ ys k₅ S₅ hP
    have hT := hi'.paired hP
    have hyl := hT.length
    rw [List.length_map] at hyl
    walk_at "m:d"
    have hsp : (((vs' ++ [Value.int (c : Nat) tc]).length : Nat) : Int) * 6 % 8 = (((fs' ++ [c]).length * 6 % 8 : Nat) : Int) := by simp; omega
    rw [hsp] at S₅
    generalize hsp2 : (fs' ++ [c]).length * 6 % 8 = sp at S₅
    have hH : sgH (alp x y) (fs' ++ [c]) = fs'.map (alp x y) ++ (if sp < 6 then [alp x y (c / 2 ^ sp * 2 ^ sp)] else []) := by
      unfold sgH; rw [hsp2]; simp
    refine seq_If_join (fun s' => ∃ h' tk' m' us k, s' = Sh s h' tk' ∧ St h h.objs.size h' m' [(d2, listOf us.toArray k), (d, listOf vs'.toArray 0), (h.objs.size + 1, o2)] ∧ m' (Str.ofString "signs") = some (.ref d2) ∧ Chars us (sgH (alp x y) (fs' ++ [c]))) ?_ ?_
    · repeat walk_at "m:d"
      refine iteD (fun h6 => ?_) (fun h6 => ?_)
      · have hsp6 : sp < 6 := by omega
        repeat walk_at "m:d"
        refine lastB (stays_list S₅.F.keep hl) ?_ (by rfl)
        repeat walk_at "m:d"
        have e2 : (2 : Int) ^ ((sp : Nat) : Int).toNat = ((2 ^ sp : Nat) : Int) := by rw [Int.toNat_natCast]; push_cast; rfl
        have hp6 : 2 ^ sp < 2 ^ 6 := Nat.pow_lt_pow_right (by decide) hsp6
        refine iPow (by omega) (by omega) (by decide) ?_
        rw [e2]
        refine iFdiv am G S₅ (Int.natCast_pos.mpr (Nat.two_pow_pos _)) ?_
        rw [← Int.natCast_ediv]
        repeat walk_at "m:d"
        refine iPow (by omega) (by omega) (by decide) ?_
        rw [e2]
        refine iMul (.of_right (intBits_le_64 (by have := hp6; generalize 2 ^ sp = p at this ⊢; omega) (by have := hp6; generalize 2 ^ sp = p at this ⊢; omega))) ?_
        rw [← Int.natCast_mul]
        have hle : c / 2 ^ sp * 2 ^ sp ≤ c := Nat.div_mul_le_self _ _
        refine sItem (i := ((c / 2 ^ sp * 2 ^ sp : Nat) : Int)) (by rw [Int.toNat_natCast]; exact alp_get x y (by omega)) (by omega) (by simp [hal]) ?_ (by rfl) (by intro _; rfl)
        repeat walk_at "m:d"
        rename_i h₇ S₇
        refine Nx.next ⟨_, _, _, _, _, rfl, S₇, by walk_at "m:lk", ?_⟩
        rw [hH, if_pos hsp6]
        exact hT.snoc
      · repeat walk_at "m:d"
        exact Nx.next ⟨_, _, _, _, _, rfl, S₅, by walk_at "m:lk", by rw [hH, if_neg (by omega), List.append_nil]; exact hT⟩
    · rintro s' ⟨h', tk', m', us, k, rfl, S', hm', hus⟩
      have hul := hus.length
      have hHl : (sgH (alp x y) (fs' ++ [c])).length ≤ 16 := by
        rw [hH]; split <;> simp <;> omega
      repeat walk_at "m:d"
      rename_i l₇ h₇ S₇
      refine lMul1 S₇ (.head _) (by omega) (by omega) (fun d₈ h₈ S₈ => ?_)
      have hrl : (List.replicate ((-((us.length : Nat) : Int)) % 4).toNat (Value.str (tx [61]) tk')).length ≤ 4 := by simp; omega
      refine lAdd S₈ ⟨_, S₈.get (.tail _ (.tail _ (.head _))), rfl, k, rfl⟩ ⟨_, S₈.get (.head _), rfl, 0, rfl⟩ (by simp; omega) (fun d₉ h₉ S₉ => ?_)
      repeat walk_at "m:d"
      refine q _ _ d₉ _ 0 S₉.F.keep (S₉.get (.head _)) (S₉.N.fresh (.head _)) ?_
      have e9 : ((-((us.length : Nat) : Int)) % 4).toNat = (4 - (sgH (alp x y) (fs' ++ [c])).length % 4) % 4 := by rw [hul]; omega
      rw [e9]
      unfold sgF
      generalize (4 - (sgH (alp x y) (fs' ++ [c])).length % 4) % 4 = r
      have hrep : ∀ (v : Value) (t : Tok) (r : Nat), v = .str (tx [61]) t → Chars (List.replicate r v) (List.replicate r 61) := by
        rintro v t r rfl
        induction r with
        | zero => exact .nil
        | succ r ih => exact .cons _ _ ih
      show StrsAre _ (List.map _ (_ ++ _))
      rw [List.map_append]
      exact StrsAre.append' hus (hrep _ _ _ rfl)

-- NbM
set_option maxRecDepth 100000
theorem md_slot : Slot "method_descriptor" "__get__" "method_descriptor.__get__" :=
  .of (owner := "method_descriptor") (n := "__get__") (by rw [typeLookup_type, builtinLookup_eq_fast]; kernel_rfl) (by decide +kernel) (by decide +kernel) (by decide +kernel)
    (by first | exact .inl (by decide +kernel) | exact .inr (by decide +kernel)) (by rw [isSubtype_type]; kernel_rfl)
theorem md_noset : typeLookup (.type "method_descriptor") "__set__" = pure none := by rw [typeLookup_type, builtinLookup_eq_fast]; kernel_rfl
theorem md_nodel : typeLookup (.type "method_descriptor") "__delete__" = pure none := by rw [typeLookup_type, builtinLookup_eq_fast]; kernel_rfl
theorem md_args (a b c : Value) : argsOk "method_descriptor.__get__" ⟨[a, b, c], []⟩ := by unfold argsOk; kernel_rfl
theorem md_entry : entryFor table "method_descriptor.__get__" = some Builtin.«method_descriptor.__get__» := entryFor_of_tree (by kernel_rfl)
theorem lk_append : typeLookup (.type "list") (Str.ofString "append") = pure (some (.builtin "list.append")) := by rw [typeLookup_type, builtinLookup_eq_fast]; kernel_rfl
theorem own_append : (".".intercalate ("list.append".cutAt '.').dropLast) = "list" := by
  have e0 : "list.append".cutAt '.' = ["list", "append"] := by first | rfl | decide +kernel
  rw [e0]; decide +kernel
theorem sub_append : isSubtype (.type "list") (.type (".".intercalate ("list.append".cutAt '.').dropLast)) = pure true := by
  rw [own_append, isSubtype_type]; kernel_rfl
theorem told_append : Manifest.toldItsClass.contains "list.append" = false := by decide +kernel
noncomputable abbrev boundObj (f self : Value) : Obj := { cls := .type "builtin_function_or_method", data := .fields #[f, self] }
section
variable {prog : Program} {w : World} {A : Around} {E : Value → Shared → Prop} {h : Heap} {g : Array GenState} {d : Drawn} {t : Nat} {os : OsState} {a : Addr} {o : Obj}
theorem md_get {R : Result → Shared → Prop} (hx : h.get? a = some o) (hc : o.cls = .type "list") (hq : R (.ok (.ret (.ref h.objs.size))) ⟨h.push (boundObj (.builtin "list.append") (.ref a)), g, d, t, os⟩) :
    codeAny (model prog w) A (.call (.builtin "method_descriptor.__get__") ⟨[.builtin "list.append", .ref a, .type "list"], []⟩) R ⟨h, g, d, t, os⟩ := by
  have hT : (⟨h, g, d, t, os⟩ : Shared).TypeIs (.ref a) "list" := ⟨_, hx, hc⟩
  have hT5 : (⟨h, g, d, t, os⟩ : Shared).TypeIs (.builtin "list.append") "method_descriptor" := F.type_list_append
  have f8 := sub_append
  refine codeAny_call_builtin md_slot.plain md_entry (md_slot.check _ _ _ _ _ _ _ _ hT5 (md_args _ _ _) ?_)
  unfold Builtin.«method_descriptor.__get__»
  repeat (any_goals (first | assumption | wp_step))
theorem ga_append {tk : Tok} {Q : PySem.Fin → Shared → Prop} {xs : Array Value} {k : Nat} (hx : h.get? a = some (listOf xs k)) (hq : Q (.done (.ret (.ref h.objs.size))) ⟨h.push (boundObj (.builtin "list.append") (.ref a)), g, d, t, os⟩) :
    wpAny (model prog w) A (Builtin.«object.__getattribute__» ⟨[.ref a, .str (Str.ofString "append") tk], []⟩) Q E ⟨h, g, d, t, os⟩ := by
  have hT : (⟨h, g, d, t, os⟩ : Shared).TypeIs (.ref a) "list" := ⟨_, hx, rfl⟩
  have hT5 : (⟨h, g, d, t, os⟩ : Shared).TypeIs (.builtin "list.append") "method_descriptor" := F.type_list_append
  have f4 := lk_append
  have f5 := F.type_list_append
  have f6 := md_slot.lookup
  have f7 := md_noset
  have f8 := md_nodel
  unfold Builtin.«object.__getattribute__»
  repeat (any_goals (first | assumption | wp_step))
  refine md_get hx rfl ?_
  repeat (any_goals (first | assumption | wp_step))
theorem call_ga_append {tk : Tok} {R : Result → Shared → Prop} {xs : Array Value} {k : Nat} (hx : h.get? a = some (listOf xs k)) (hq : R (.ok (.ret (.ref h.objs.size))) ⟨h.push (boundObj (.builtin "list.append") (.ref a)), g, d, t, os⟩) :
    codeAny (model prog w) A (.call (.builtin "list.__getattribute__") ⟨[.ref a, .str (Str.ofString "append") tk], []⟩) R ⟨h, g, d, t, os⟩ :=
  codeAny_call_builtin F.slot_list_getattribute.plain F.entry_list_ga (F.slot_list_getattribute.check _ _ _ _ _ _ _ _ (show (⟨h, g, d, t, os⟩ : Shared).TypeIs (.ref a) "list" from ⟨_, hx, rfl⟩) (F.args_list_getattribute_2 _ _) (ga_append hx hq))
theorem attr_append {Q : Value → Shared → Prop} {xs : Array Value} {k : Nat} (hx : h.get? a = some (listOf xs k)) (hq : Q (.ref h.objs.size) ⟨h.push (boundObj (.builtin "list.append") (.ref a)), g, d, t + 1, os⟩) :
    wpAny (model prog w) A (getAttr (.ref a) (Str.ofString "append") true) Q E ⟨h, g, d, t, os⟩ := by
  have hT : ∀ tk', (⟨h, g, d, tk', os⟩ : Shared).TypeIs (.ref a) "list" := fun _ => ⟨_, hx, rfl⟩
  have f2 := F.slot_list_getattribute.lookup
  have f3 := F.slot_list_getattribute.bind (.ref a)
  have f5 := am_list_getattr_none
  unfold getAttr getAttrBy
  repeat (any_goals (first | assumption | exact hT _ | wp_step))
  refine call_ga_append hx ?_
  repeat (any_goals (first | assumption | wp_step))
end
section
variable {prog : Program} {w : World} {A : Around} {E : Value → Shared → Prop} {s : Shared} {h : Heap} {tk : Nat} {h₀ : Heap} {L D B : Addr} {m : Str → Option Value} {news news' : List (Addr × Obj)} {Q : Value → Shared → Prop}
theorem bAppend {xs : Array Value} {k : Nat} (S : St h₀ L h m news) (hm : (D, listOf xs k) ∈ news) (q : ∀ b h', St h₀ L h' m ((b, boundObj (.builtin "list.append") (.ref D)) :: news) → Q (.ref b) (Sh s h' (tk + 1))) :
    wpAny (model prog w) A (getAttr (.ref D) (Str.ofString "append") true) Q E (Sh s h tk) :=
  attr_append (S.get hm) (q _ _ (S.one (fun _ _ e => Heap.get?_push_of_some _ e) (Heap.get?_push_size _ rfl) (fresh_size _)))
end

-- NbN
set_option maxRecDepth 100000
theorem sub_list_module : isSubtype (.type "list") (.type "module") = pure false := by rw [isSubtype_type]; kernel_rfl
theorem sub_list_type : isSubtype (.type "list") (.type "type") = pure false := by rw [isSubtype_type]; kernel_rfl
section
variable {prog : Program} {w : World} {A : Around} {E : Value → Shared → Prop} {s : Shared} {h : Heap} {tk : Nat} {h₀ : Heap} {L D B : Addr} {m : Str → Option Value} {news news' : List (Addr × Obj)} {Q : Value → Shared → Prop}
theorem bound_call {f self : Value} {id : String} {pos : List Value} {p : Addr} {R : Result → Shared → Prop} {s : Shared} (hf : f = .builtin id) (ho : s.heap.get? p = some (boundObj f self)) (hqt : (Code.builtin id ⟨self :: pos, []⟩).quiet = true)
    (q : wpAny (model prog w) A.in1 (checkBoundCall id ⟨self :: pos, []⟩) (fun _ s' => codeAny (model prog w) A (.builtin id ⟨self :: pos, []⟩) R s') (fun e s' => R (.error e) s') s) : codeAny (model prog w) A (.call (.ref p) ⟨pos, []⟩) R s := by
  obtain ⟨hh, g, dr, t, os⟩ := s
  subst hf
  refine codeAny_of_tree ?_
  show wpAny _ _ (callAny (.ref p) _) _ _ _
  dsimp only at ho
  refine nd_load ho ?_
  show wpAny _ _ (checkBoundCall id ⟨self :: pos, []⟩ >>= fun _ => again (.builtin id ⟨self :: pos, []⟩)) _ _ _
  refine wpAny_bind (wpAny_mono q (fun _ s' h' => wpAny_pure ⟨hqt, h'⟩) fun _ _ h' => h')
theorem ck_append {a : Addr} {xs : Array Value} {k : Nat} {x : Value} {h : Heap} {g : Array GenState} {d : Drawn} {t : Nat} {os : OsState} {Q : Unit → Shared → Prop} (hx : h.get? a = some (listOf xs k)) (hq : Q () ⟨h, g, d, t, os⟩) :
    wpAny (model prog w) A (checkBoundCall "list.append" ⟨[.ref a, x], []⟩) Q E ⟨h, g, d, t, os⟩ := by
  have hT : (⟨h, g, d, t, os⟩ : Shared).TypeIs (.ref a) "list" := ⟨_, hx, rfl⟩
  have f9 := sub_list_module
  have f10 := sub_list_type
  unfold checkBoundCall
  repeat (any_goals (first | assumption | wp_step))
end

-- NbO
section
variable {prog : Program} {M : Model} {w : World} {A : Around} {E : Value → Shared → Prop} {s : Shared} {h : Heap} {tk : Nat} {h₀ : Heap} {L D B : Addr} {m : Str → Option Value} {news news' : List (Addr × Obj)} {Q : Value → Shared → Prop} {env : Env} {pos : Pos} {x : List Nat} {t u : Tok}
noncomputable def BndP (q : Addr) (f self : Value) (h : Heap) : Prop := h.get? q = some (boundObj f self)
theorem keeps_B {q : Addr} {f self : Value} (h : Heap) (X : BndP q f self h) : ∃ k, (k = Keeper.frame ∨ k = Keeper.machine ∨ k = Keeper.boundFrame) ∧ Looks M h (keeperOf (.ref q)) k :=
  ⟨.machine, .inr (.inl rfl), (Looks.ld (part := none) X).andThen .now⟩
theorem callB {e : Expr} {rest : List Expr} {f self : Value} (_S : St h₀ L h m news) (_hm : (B, boundObj f self) ∈ news)
    (q : wpAny M A (spliced (backTo pos (starEach (e :: rest) env))) (fun vs s₁ => BndP B f self s₁.heap ∧ wpAny M A (call (.ref B) vs) Q E s₁) E (Sh s h tk))
    (he : starEach (e :: rest) env = (false, eval e env) :: starEach rest env) (hplain : (backTo pos (starEach rest env)).any (·.1) = false) :
    wpAny M A (callWith pos (.ref B) [] (backTo pos (starEach (e :: rest) env)) []) Q E (Sh s h tk) := by
  rw [he] at q ⊢
  exact callWith_of (by show ((false || (backTo pos (starEach rest env)).any (·.1)) || false) = false; rw [hplain]; rfl) (keeps_B (f := f) (self := self)) (evalArgs_plain q)
theorem inB {P : Prop} {f self : Value} (S : St h₀ L h m news) (hm : (B, boundObj f self) ∈ news) (q : P) : BndP B f self (Sh s h tk).heap ∧ P := ⟨S.get hm, q⟩
theorem bApp {vs : List Value} {k : Nat} {x : Value} (S : St h₀ L h m news) (hm : (B, boundObj (.builtin "list.append") (.ref D)) ∈ news) (U : Up D (listOf vs.toArray k) (listOf (vs ++ [x]).toArray (k + 1)) news news')
    (q : ∀ h', St h₀ L h' m news' → Q .none (Sh s h' tk)) (hsz : vs.length ≤ 1000000) : wpAny (model prog w) A (call (.ref B) [x]) Q E (Sh s h tk) := by
  have ho : h.get? D = some (listOf vs.toArray k) := S.get U.mem
  refine wpAny_call (bound_call (s := Sh s h tk) rfl (S.get hm) (Code.quiet_builtin _ (by decide +kernel)) (ck_append ho (codeAny_builtin entry_list_append ?_)))
  show wpAny _ _ (updateSeq D (·.push x) >>= fun _ => ret .none) _ _ (Sh s h tk)
  refine wpAny_bind (wpAny_updateSeq ho rfl (wpAny_pure ?_) (by show _ ≤ 16777216; simp; omega) (by show _ ≤ 16777216 + 1; simp; omega))
  refine q _ (S.set U (Heap.SameBut.update ..) ?_)
  have e : Obj.mapSeq (fun xs : Array Value => xs.push x) (listOf vs.toArray k) = listOf (vs ++ [x]).toArray (k + 1) := by
    refine (mapSeq_of (f := fun xs : Array Value => xs.push x) (xs := vs.toArray) (ys := (vs ++ [x]).toArray) (by rw [List.push_toArray])).trans ?_
    rw [if_neg (by simp)]
  rw [← e]
  exact Heap.get?_update_self _ ho (by rw [e]; rfl)
theorem attrN {n attr : Str} {np pos : Pos} (q : wpAny M A (eval (.Name n np) env) (fun o s₁ => wpAny M A (getAttr o attr true) Q E s₁) E s) : wpAny M A (eval (.Attribute (.Name n np) attr pos) env) Q E s := Attribute_name q
theorem gmStr {n : Str} {id : String} {pl : Sem Bool} {K : Value → List Value → Shared → Prop} (hs : Slot "str" n id) (ht : typeOf (.builtin id) = pure (.type "method_descriptor")) (q : K (.builtin id) [.str (tx x) t] (Sh s h tk)) : GetM M A (.str (tx x) t) n pl K E (Sh s h tk) :=
  @getMethod_builtin M A E (Sh s h tk) (.str (tx x) t) "str" n id pl (fun fx s₂ => K fx.1 fx.2 s₂) (typeIs_str _ _ _) F.plainAttrs_str hs ht nofun q
theorem gmS_translate {pl : Sem Bool} {K : Value → List Value → Shared → Prop} (q : K (.builtin "str.translate") [.str (tx x) t] (Sh s h tk)) : GetM M A (.str (tx x) t) (Str.ofString "translate") pl K E (Sh s h tk) := by with_reducible exact gmStr F.slot_str_translate F.type_str_translate q
theorem gmS_splitlines {pl : Sem Bool} {K : Value → List Value → Shared → Prop} (q : K (.builtin "str.splitlines") [.str (tx x) t] (Sh s h tk)) : GetM M A (.str (tx x) t) (Str.ofString "splitlines") pl K E (Sh s h tk) := by with_reducible exact gmStr F.slot_str_splitlines F.type_str_splitlines q
theorem gmS_rstrip {pl : Sem Bool} {K : Value → List Value → Shared → Prop} (q : K (.builtin "str.rstrip") [.str (tx x) t] (Sh s h tk)) : GetM M A (.str (tx x) t) (Str.ofString "rstrip") pl K E (Sh s h tk) := by with_reducible exact gmStr F.slot_str_rstrip F.type_str_rstrip q
theorem gmS_endswith {pl : Sem Bool} {K : Value → List Value → Shared → Prop} (q : K (.builtin "str.endswith") [.str (tx x) t] (Sh s h tk)) : GetM M A (.str (tx x) t) (Str.ofString "endswith") pl K E (Sh s h tk) := by with_reducible exact gmStr F.slot_str_endswith F.type_str_endswith q
theorem gmS_join {pl : Sem Bool} {K : Value → List Value → Shared → Prop} (q : K (.builtin "str.join") [.str (tx x) t] (Sh s h tk)) : GetM M A (.str (tx x) t) (Str.ofString "join") pl K E (Sh s h tk) := by with_reducible exact gmStr F.slot_str_join F.type_str_join q
theorem txts_values (l : List (Str × Tok)) : StrsAre (strValues l) (l.map (·.1)) := strsAre_of_values l
theorem sSplit (S : St h₀ L h m news) (hT : ∀ c ∈ x, c = 13 ∨ c = 10 ∨ Unicode.isLineBreak c = false) (hz : x.length ≤ 1000000)
    (q : ∀ d h' tk' us, St h₀ L h' m ((d, listOf us.toArray 0) :: news) → StrsAre us ((spl [] false x).map tx) → Q (.ref d) (Sh s h' tk')) : wpAny (model prog w) A (call (.builtin "str.splitlines") [.str (tx x) t]) Q E (Sh s h tk) := by
  refine splitlinesN (s := Sh s h tk) S.F S.N (fun l h' k e F' N' => ?_) (by rw [tx_len]; show _ ≤ 16777216; omega) (Nat.le_trans (lineCuts_le _) (by rw [tx_len]; show _ ≤ 16777216; omega))
  rw [lines_tx x hT] at e
  refine q _ h' k (strValues l) ⟨F', N', ?_⟩ (e ▸ strsAre_of_values l)
  rw [List.map_cons, List.nodup_cons]
  refine ⟨fun hm => ?_, S.D⟩
  obtain ⟨p, hp, e⟩ := List.mem_map.mp hm
  have := Heap.lt_size (S.N p hp).1
  exact absurd (e ▸ this) (Nat.lt_irrefl _)
theorem join_tx (e : List Nat) (ls : List (List Nat)) : Txt.join (tx e) (ls.map tx) = tx (jn e ls) := by
  have hj : ∀ (r : List (List Nat)) (a : List Nat), jn e (a :: r) = a ++ r.flatMap (e ++ ·) := by
    intro r
    induction r with
    | nil => intro a; simp [jn]
    | cons b r ih => intro a; rw [jn, ih, List.flatMap_cons]; simp
  have hf : ∀ (r : List (List Nat)) (a : List Nat), (r.map tx).foldl (fun acc p => acc ++ (tx e).cps ++ p.cps) a.toArray = (a ++ r.flatMap (e ++ ·)).toArray := by
    intro r
    induction r with
    | nil => intro a; simp
    | cons b r ih =>
      intro a
      rw [List.map_cons, List.foldl_cons]
      have : a.toArray ++ (tx e).cps ++ (tx b).cps = (a ++ e ++ b).toArray := by simp [tx]
      rw [this, ih, List.flatMap_cons]; simp
  cases ls with
  | nil => rfl
  | cons a r =>
    show Str.mk (List.foldl _ (tx a).cps (r.map tx)) = _
    rw [hj, show (tx a).cps = a.toArray from rfl, hf]; rfl
theorem sJoin {ls : List (List Nat)} {vs : List Value} (hl : h.IsList D vs.toArray) (hi : StrsAre vs (ls.map tx)) (hz : (ls.map (·.length)).sum + ls.length * x.length ≤ 16777216)
    (q : ∀ t' tk', Q (.str (tx (jn x ls)) t') (Sh s h tk')) : wpAny (model prog w) A (call (.builtin "str.join") [.str (tx x) t, .ref D]) Q E (Sh s h tk) := by
  refine join_list (s := Sh s h tk) hl (ys := ls.map tx) hi ?_ (fun t' k => ?_)
  · rw [tx_len, List.map_map, List.length_map]
    have : (ls.map (Str.length ∘ tx)) = ls.map (·.length) := by apply List.map_congr_left; intro a _; exact tx_len a
    rw [this]; exact hz
  · rw [join_tx]; exact q t' k
end

-- NbP
local macro_rules | `(tactic| walk_at "m:e") => `(tactic| first
  | ((with_reducible refine' callB ?sa ?sb ?sc ?sd ?se); (case sd => rfl); (case se => rfl); (case sa => with_reducible assumption); (case sb => walk_at "m:mem"))
  | ((with_reducible refine' inB ?sa ?sb ?sc); (case sa => with_reducible assumption); (case sb => walk_at "m:mem"))
  | ((with_reducible refine' bApp ?sa ?sb ?sc ?sd ?sz); (case sa => with_reducible assumption); (case sb => walk_at "m:mem"); (case sc => walk_at "m:up"); (case sz => first | omega | (simp only [List.length_reverse, List.length_map, List.length_cons, List.length_nil, List.length_append]; omega)); intro h' S)
  | with_reducible refine attrN ?_
  | ((with_reducible refine' bAppend ?sa ?sb ?sc); (case sa => with_reducible assumption); (case sb => walk_at "m:mem"); intro b' h' S)
  | with_reducible refine gmS_translate ?_
  | with_reducible refine gmS_splitlines ?_
  | with_reducible refine gmS_rstrip ?_
  | with_reducible refine gmS_endswith ?_
  | with_reducible refine gmS_join ?_
  | walk_at "m:d")
theorem cut_nn (l : List Nat) (a b : Nat) : cut l (some (a : Int)) (some (b : Int)) = (l.drop a).take (b - a) := by
  have hc : ∀ k : Nat, clipAt l.length (k : Int) = min k l.length := fun k => by
    have := clipAt_cast l.length (k : Int); omega
  unfold cut
  simp only [Option.elim, hc]
  by_cases ha : a ≤ l.length
  · rw [Nat.min_eq_left ha]
    by_cases hb : b ≤ l.length
    · rw [Nat.min_eq_left hb]
    · rw [Nat.min_eq_right (by omega), List.take_of_length_le (by simp), List.take_of_length_le (by simp; omega)]
  · rw [List.drop_of_length_le (show l.length ≤ min a l.length by omega), List.drop_of_length_le (show l.length ≤ a by omega)]; simp
theorem cut_n (l : List Nat) (a : Nat) : cut l (some (a : Int)) none = l.drop a := by
  have hc : clipAt l.length (a : Int) = min a l.length := by have := clipAt_cast l.length (a : Int); omega
  unfold cut
  simp only [Option.elim, hc]
  by_cases ha : a ≤ l.length
  · rw [Nat.min_eq_left ha, List.take_of_length_le (by simp)]
  · rw [List.drop_of_length_le (show l.length ≤ min a l.length by omega), List.drop_of_length_le (show l.length ≤ a by omega)]; simp
theorem cut_n1 (l : List Nat) (a : Nat) (ha : a < l.length) : cut l (some (a : Int)) (some (-1)) = (l.drop a).dropLast := by
  have hc : clipAt l.length (a : Int) = a := by have := clipAt_cast l.length (a : Int); omega
  unfold cut
  simp only [Option.elim, hc]
  rw [show (-1 : Int) = -((1 : Nat) : Int) from rfl, clipAt_neg _ _ (by decide), List.dropLast_eq_take]
  congr 1
  simp; omega
theorem gl_CRLF (w : World) : ∃ t, nsIn (KK w) mainGlobals (Str.ofString "CRLF") = some (some (.str (tx [13, 10]) t)) := ⟨_, by rfl⟩
theorem Txts.item {vs : List Value} {ls : List (List Nat)} (h : Txts vs ls) {i : Nat} {v : Value} (hv : vs[i]? = some v) : ∃ x t, v = .str (tx x) t ∧ ls[i]? = some x := by
  obtain ⟨y, t, rfl, hy⟩ := StrsAre.item h i v hv
  rw [List.getElem?_map] at hy
  cases hc : ls[i]? with
  | none => rw [hc] at hy; cases hy
  | some c => rw [hc] at hy; cases hy; exact ⟨c, t, rfl, rfl⟩
set_option maxRecDepth 100000 in
set_option maxHeartbeats 4000000 in
theorem body_spec {w : World} {A : Around} {s : Shared} {h : Heap} {tk : Nat} {ss e : List Nat} {R : Nat} {t u v : Tok} {Q : Value → Shared → Prop} {E : Value → Shared → Prop} (G : Gd w h) (am : Am A 2)
    (hc : ∀ c ∈ ss, c < 256) (hne : ss ≠ []) (hn : ss.length ≤ 1000) (hR : 4 ≤ R) (hR2 : R ≤ 11) (he : e.length ≤ 2)
    (q : ∀ h' tk t', (∀ b o, h.get? b = some o → h'.get? b = some o) → Q (.str (tx (jn e ((spl [] false (ss.flatMap tr)).flatMap (beItems e R) ++ (if (ss.flatMap tr).getLast? = some 13 ∨ (ss.flatMap tr).getLast? = some 10 then [[]] else [])))) t') (Sh s h' tk)) :
    wpAny (model prg w) A (call (.ref 64) [.str (tx ss) t, .int (R : Nat) u, .str (tx e) v]) Q E (Sh s h tk) := by
  refine callD (binds := [(Str.ofString "body", .str (tx ss) t), (Str.ofString "maxlinelen", .int (R : Nat) u), (Str.ofString "eol", .str (tx e) v)]) G (by rfl) (by rfl) am.dp (binds_K (s := Sh s h tk) G.k rfl (by rfl) rfl rfl rfl) (locs rfl) (fun h₁ tk₁ S => ?_) rfl rfl rfl (by decide)
  have hT := tr_brk hc
  have hTl : (ss.flatMap tr).length ≤ 3000 := by have := tr_len ss; omega
  repeat walk_at "m:e"
  refine iteD (fun h1 => absurd h1 (by omega)) (fun _ => ?_)
  repeat walk_at "m:e"
  refine sTruthy (by omega) ?_
  rw [decide_eq_true hne]
  refine iteF ?_
  repeat walk_at "m:e"
  refine sTranslate (isLst_of (G.k.keeps S.F.keep) (bmap_lst w)) (bmap_ok w) (bmap_len w) hc hne (by omega) (fun t' tk' => ?_)
  generalize hTT : ss.flatMap tr = T at *
  repeat walk_at "m:e"
  rename_i S'
  refine seq_any (For_invV h rfl rfl ?_ (hE := PassesOwn.never))
  repeat walk_at "m:e"
  refine sSplit S' hT (by omega) (fun lsp h₂ tk₂ us₂ S₂ hus₂ => ?_)
  clear S
  rename_i tsb _ _ _ _ _ lD _ _ _ _ lB _ _ _
  have hw := spl_weight T hT
  generalize hLs : spl [] false T = Ls at *
  have htlb : ∀ x ∈ Ls, x.length ≤ 3001 := fun x hx => by
    have : x.length ≤ (Ls.map (·.length)).sum := mem_le_sum hx
    omega
  refine iter_list (fun i m nw => m (Str.ofString "body") = some (.str (tx T) t') ∧ m (Str.ofString "soft_break") = some (.str (tx ([61] ++ e)) tsb) ∧ m (Str.ofString "maxlinelen") = some (.int (R : Nat) u) ∧ (∃ t, m (Str.ofString "maxlinelen1") = some (.int ((R : Nat) - 1) t)) ∧
    m (Str.ofString "encoded_body") = some (.ref lD) ∧ m (Str.ofString "append") = some (.ref lB) ∧ m (Str.ofString "eol") = some (.str (tx e) v) ∧
    ∃ us k, nw = [(lsp, listOf us₂.toArray 0), (lB, boundObj (.builtin "list.append") (.ref lD)), (lD, listOf us.toArray k)] ∧ Txts us ((Ls.take i).flatMap (beItems e R))) am.hh ⟨_, S₂.get (.head _), rfl, 0, rfl⟩ S₂ ?_ (.inr ⟨_, fun i m n hj => by obtain ⟨_, _, _, _, _, _, _, us, k, rfl, _⟩ := hj; exact .head _⟩) ?_ ?_
  · exact ⟨by walk_at "m:lk", by walk_at "m:lk", by walk_at "m:lk", ⟨_, by walk_at "m:lk"⟩, by walk_at "m:lk", by walk_at "m:lk", by walk_at "m:lk", [], 0, rfl, .nil⟩
  · rintro i vv m₁ news₁ h₃ tk₃ it hv ⟨hbo, hsb, hml, ⟨tm1, hm1⟩, heb, hap, heo, us, k, rfl, hus⟩ S
    obtain ⟨tl, tt, rfl, htl⟩ := Txts.item hus₂ hv
    have hstep : (Ls.take (i + 1)).flatMap (beItems e R) = (Ls.take i).flatMap (beItems e R) ++ beItems e R tl := by rw [List.take_add_one, htl]; simp
    have htll := htlb tl (List.mem_of_getElem? htl)
    have hpre : ((Ls.take i).map (·.length)).sum + (Ls.take i).length ≤ 3001 := by
      have h1 : (Ls.map (·.length)).sum = ((Ls.take i).map (·.length)).sum + ((Ls.drop i).map (·.length)).sum := by
        rw [← List.sum_append, ← List.map_append, List.take_append_drop]
      have h2 : (Ls.take i).length ≤ Ls.length := by rw [List.length_take]; omega
      omega
    have hpl := (items_len he R 3001 _ hpre).1
    generalize hpr : (Ls.take i).flatMap (beItems e R) = pr at *
    repeat walk_at "m:e"
    rename_i S₄
    refine seq_any (while_inv (fun n m nw => m (Str.ofString "body") = some (.str (tx T) t') ∧ m (Str.ofString "soft_break") = some (.str (tx ([61] ++ e)) tsb) ∧ m (Str.ofString "maxlinelen") = some (.int (R : Nat) u) ∧ (∃ t, m (Str.ofString "maxlinelen1") = some (.int ((R : Nat) - 1) t)) ∧
      m (Str.ofString "encoded_body") = some (.ref lD) ∧ m (Str.ofString "append") = some (.ref lB) ∧ m (Str.ofString "eol") = some (.str (tx e) v) ∧ m (Str.ofString "line") = some (.str (tx tl) tt) ∧ (∃ t, m (Str.ofString "laststart") = some (.int ((tl.length : Nat) - 1 - (R : Nat)) t)) ∧
      ∃ st acc us k, (∃ t, m (Str.ofString "start") = some (.int (st : Nat) t)) ∧ (st = 0 ∨ st < tl.length) ∧ acc ++ (beL R tl n st).1 = (beL R tl tl.length 0).1 ∧ (beL R tl n st).2 = (beL R tl tl.length 0).2 ∧ tl.length - st ≤ n ∧ acc.length ≤ st ∧
        nw = [it, (lsp, listOf us₂.toArray 0), (lB, boundObj (.builtin "list.append") (.ref lD)), (lD, listOf us.toArray k)] ∧ Txts us (pr ++ acc)) (n₀ := tl.length) S₄ ?_ ?_)
    · exact ⟨by walk_at "m:lk", by walk_at "m:lk", by walk_at "m:lk", ⟨_, by walk_at "m:lk"⟩, by walk_at "m:lk", by walk_at "m:lk", by walk_at "m:lk", by walk_at "m:lk", ⟨_, by walk_at "m:lk"⟩, 0, [], us, k, ⟨_, by walk_at "m:lk"⟩, .inl rfl, rfl, rfl, by omega, by simp, rfl, by rw [List.append_nil]; exact hus⟩
    · rintro n m₂ nw₂ h₅ tk₅ S₅ ⟨hbo, hsb, hml, ⟨tm1, hm1⟩, heb, hap, heo, hli, ⟨tls, hls⟩, st, acc, us, k, ⟨tst, hst⟩, hst0, g1, g2, g3, g4, rfl, hus⟩
      have hul := hus.length
      rw [List.length_append] at hul
      repeat walk_at "m:e"
      refine iteD (fun h6 => ?_) (fun h6 => ?_)
      · have h6' : st + R + 1 ≤ tl.length := by omega
        obtain ⟨n', rfl⟩ : ∃ n', n = n' + 1 := ⟨n - 1, by omega⟩
        rw [beL, if_pos h6'] at g1 g2
        obtain ⟨c1, hc1⟩ : ∃ c1, tl[st + R - 3]? = some c1 := ⟨_, List.getElem?_eq_getElem (by omega)⟩
        obtain ⟨c2, hc2⟩ : ∃ c2, tl[st + R - 2]? = some c2 := ⟨_, List.getElem?_eq_getElem (by omega)⟩
        have hc1' : tl[((st : Int) + ((R : Int) - 1) - 2).toNat]? = some c1 := by rw [show ((st : Int) + ((R : Int) - 1) - 2).toNat = st + R - 3 by omega]; exact hc1
        have hc2' : tl[((st : Int) + ((R : Int) - 1) - 1).toNat]? = some c2 := by rw [show ((st : Int) + ((R : Int) - 1) - 1).toNat = st + R - 2 by omega]; exact hc2
        repeat walk_at "m:e"
        walk_at "m:item"
        repeat walk_at "m:e"
        refine iteD (fun h7 => ?_) (fun h7 => ?_)
        · have h7' : c1 = 61 := by simpa using h7
          have hcut : cutAt R tl st = st + R - 3 := by unfold cutAt; rw [if_pos (by rw [hc1, h7'])]
          rw [hcut] at g1 g2
          repeat walk_at "m:e"
          rename_i S₆
          have es : (st : Int) + ((R : Int) - 1) - 2 = ((st + R - 3 : Nat) : Int) := by omega
          refine ⟨_, _, _, _, n', rfl, S₆, Nat.lt_succ_self _, by walk_at "m:lk", by walk_at "m:lk", by walk_at "m:lk", ⟨_, by walk_at "m:lk"⟩, by walk_at "m:lk", by walk_at "m:lk", by walk_at "m:lk", by walk_at "m:lk", ⟨_, by walk_at "m:lk"⟩, st + R - 3, acc ++ [(tl.drop st).take (st + R - 3 - st) ++ [61]], _, _, ⟨_, by rw [← es]; exact lk_eq⟩, .inr (by omega), by rw [← g1]; simp, g2, by omega, by simp; omega, rfl, ?_⟩
          rw [← List.append_assoc, ← row_cut (by omega) (by rw [hc1, h7'] : tl[st + R - 3]? = some 61)]
          have ec : cut tl (some (st : Int)) (some ((st : Int) + ((R : Int) - 1) - 1)) = (tl.drop st).take (st + R - 3 + 1 - st) := by
            rw [show (st : Int) + ((R : Int) - 1) - 1 = ((st + R - 3 + 1 : Nat) : Int) by omega, cut_nn]
          rw [← ec]
          exact hus.snoc
        · have h7' : ¬ c1 = 61 := by simpa using h7
          repeat walk_at "m:e"
          walk_at "m:item"
          repeat walk_at "m:e"
          refine iteD (fun h8 => ?_) (fun h8 => ?_)
          · have h8' : c2 = 61 := by simpa using h8
            have hcut : cutAt R tl st = st + R - 2 := by unfold cutAt; rw [if_neg (by rw [hc1]; simpa using h7'), if_pos (by rw [hc2, h8'])]
            rw [hcut] at g1 g2
            repeat walk_at "m:e"
            rename_i S₆
            have es : (st : Int) + ((R : Int) - 1) - 1 = ((st + R - 2 : Nat) : Int) := by omega
            refine ⟨_, _, _, _, n', rfl, S₆, Nat.lt_succ_self _, by walk_at "m:lk", by walk_at "m:lk", by walk_at "m:lk", ⟨_, by walk_at "m:lk"⟩, by walk_at "m:lk", by walk_at "m:lk", by walk_at "m:lk", by walk_at "m:lk", ⟨_, by walk_at "m:lk"⟩, st + R - 2, acc ++ [(tl.drop st).take (st + R - 2 - st) ++ [61]], _, _, ⟨_, by rw [← es]; exact lk_eq⟩, .inr (by omega), by rw [← g1]; simp, g2, by omega, by simp; omega, rfl, ?_⟩
            rw [← List.append_assoc, ← row_cut (by omega) (by rw [hc2, h8'] : tl[st + R - 2]? = some 61)]
            have ec : cut tl (some (st : Int)) (some ((st : Int) + ((R : Int) - 1))) = (tl.drop st).take (st + R - 2 + 1 - st) := by
              rw [show (st : Int) + ((R : Int) - 1) = ((st + R - 2 + 1 : Nat) : Int) by omega, cut_nn]
            rw [← ec]
            exact hus.snoc
          · have h8' : ¬ c2 = 61 := by simpa using h8
            have hcut : cutAt R tl st = st + R - 1 := by unfold cutAt; rw [if_neg (by rw [hc1]; simpa using h7'), if_neg (by rw [hc2]; simpa using h8')]
            rw [hcut] at g1 g2
            have ec : cut tl (some (st : Int)) (some ((st : Int) + ((R : Int) - 1))) = (tl.drop st).take (st + R - 1 - st) := by
              rw [show (st : Int) + ((R : Int) - 1) = ((st + R - 1 : Nat) : Int) by omega, cut_nn]
            have ecl : (cut tl (some (st : Int)) (some ((st : Int) + ((R : Int) - 1)))).length ≤ 4000 := by rw [ec, List.length_take]; omega
            repeat walk_at "m:e"
            rename_i S₆
            have es : (st : Int) + ((R : Int) - 1) = ((st + R - 1 : Nat) : Int) := by omega
            refine ⟨_, _, _, _, n', rfl, S₆, Nat.lt_succ_self _, by walk_at "m:lk", by walk_at "m:lk", by walk_at "m:lk", ⟨_, by walk_at "m:lk"⟩, by walk_at "m:lk", by walk_at "m:lk", by walk_at "m:lk", by walk_at "m:lk", ⟨_, by walk_at "m:lk"⟩, st + R - 1, acc ++ [(tl.drop st).take (st + R - 1 - st) ++ [61]], _, _, ⟨_, by rw [← es]; exact lk_eq⟩, .inr (by omega), by rw [← g1]; simp, g2, by omega, by simp; omega, rfl, ?_⟩
            rw [← List.append_assoc, ← ec]
            exact hus.snoc
      · have hend : beL R tl n st = ([], st) := by
          cases n with
          | zero => rfl
          | succ n => rw [beL, if_neg (by omega)]
        rw [hend] at g1 g2
        rw [List.append_nil] at g1
        have hit : beItems e R tl = acc ++ [beLast e R tl st] := by unfold beItems; rw [← g1, ← g2]
        refine Cont.next ?_
        refine seq_If (cutS S₅ (match tl.getLast? with | some c => decide (c = 32 ∨ c = 9) | none => false) ?_ (fun h₇ tk₇ S₇ => ?_))
        · repeat walk_at "m:e"
          refine sTruthy (by omega) ?_
          refine iteD (fun h9 => ?_) (fun h9 => ?_)
          · rcases List.eq_nil_or_concat tl with rfl | ⟨tl', c, rfl⟩
            · exact absurd rfl h9
            · rw [List.concat_eq_append] at *
              repeat walk_at "m:e"
              refine sLast (l := tl') rfl (by omega) ?_ (by rfl) (by intro _; rfl)
              repeat walk_at "m:e"
              refine iteD (fun h2 => ?_) (fun h2 => ?_)
              · repeat walk_at "m:e"
                exact ⟨by simp at h2 ⊢; simp [h2], _, _, rfl, S₅⟩
              · exact ⟨by simp at h2 ⊢; simp [h2], _, _, rfl, S₅⟩
          · have : tl = [] := Classical.not_not.mp h9
            subst this
            exact ⟨rfl, _, _, rfl, S₅⟩
        · clear S₅
          refine iteB (fun hbl => ?_) (fun hbl => ?_)
          · rcases List.eq_nil_or_concat tl with rfl | ⟨tl', c, rfl⟩
            · exact absurd hbl (by simp)
            · rw [List.concat_eq_append] at *
              have hcb : c = 32 ∨ c = 9 := by simpa using hbl
              have hlast : beLast e R (tl' ++ [c]) st = ((tl' ++ [c]).drop st).dropLast ++ (if (tl' ++ [c]).length + 2 ≤ st + R then quo c else if (tl' ++ [c]).length + 1 = st + R then [c] ++ ([61] ++ e) else [61] ++ e ++ quo c) := by
                unfold beLast; simp only [List.getLast?_append]; simp [hcb]
              have hstl : st < (tl' ++ [c]).length := by rcases hst0 with rfl | h; simp; exact h
              have ecut := cut_n1 (tl' ++ [c]) st hstl
              have ecl : (cut (tl' ++ [c]) (some (st : Int)) (some (-1))).length ≤ 4000 := by rw [ecut, List.length_dropLast, List.length_drop]; omega
              generalize hTL : tl' ++ [c] = TL at *
              iterate 6 walk_at "m:e"
              rename_i S₈
              refine seq_If_join (fun s' => ∃ h' tk' m' tq, s' = Sh s h' tk' ∧ St h h.objs.size h' m' [it, (lsp, listOf us₂.toArray 0), (lB, boundObj (.builtin "list.append") (.ref lD)), (lD, listOf us.toArray k)] ∧ m' (Str.ofString "body") = some (.str (tx T) t') ∧ m' (Str.ofString "soft_break") = some (.str (tx ([61] ++ e)) tsb) ∧ m' (Str.ofString "maxlinelen") = some (.int (R : Nat) u) ∧ (∃ t, m' (Str.ofString "maxlinelen1") = some (.int ((R : Nat) - 1) t)) ∧
                m' (Str.ofString "encoded_body") = some (.ref lD) ∧ m' (Str.ofString "append") = some (.ref lB) ∧ m' (Str.ofString "eol") = some (.str (tx e) v) ∧ m' (Str.ofString "line") = some (.str (tx TL) tt) ∧ m' (Str.ofString "start") = some (.int (st : Nat) tst) ∧
                m' (Str.ofString "q") = some (.str (tx (if TL.length + 2 ≤ st + R then quo c else if TL.length + 1 = st + R then [c] ++ ([61] ++ e) else [61] ++ e ++ quo c)) tq)) ?_ ?_
              · repeat walk_at "m:e"
                refine iteD (fun h10 => ?_) (fun h10 => ?_)
                · repeat walk_at "m:e"
                  refine sLast (l := tl') hTL.symm (by omega) ?_ (by rfl) (by intro _; rfl)
                  repeat walk_at "m:e"
                  refine quote_spec (G.keeps S₈.F.keep) am.deeper (by omega) (fun h₉ tk₉ t₉ st₉ => ?_)
                  replace S₈ := S₈.stay st₉
                  repeat walk_at "m:e"
                  rename_i S₁₀
                  exact Nx.next ⟨_, _, _, _, rfl, S₁₀, by walk_at "m:lk", by walk_at "m:lk", by walk_at "m:lk", ⟨_, by walk_at "m:lk"⟩, by walk_at "m:lk", by walk_at "m:lk", by walk_at "m:lk", by walk_at "m:lk", by walk_at "m:lk", by rw [if_pos (by omega)]; exact lk_eq⟩
                · repeat walk_at "m:e"
                  refine iteB (fun h11 => ?_) (fun h11 => ?_)
                  · repeat walk_at "m:e"
                    refine sLast (l := tl') hTL.symm (by omega) ?_ (by rfl) (by intro _; rfl)
                    repeat walk_at "m:e"
                    rename_i S₁₀
                    exact Nx.next ⟨_, _, _, _, rfl, S₁₀, by walk_at "m:lk", by walk_at "m:lk", by walk_at "m:lk", ⟨_, by walk_at "m:lk"⟩, by walk_at "m:lk", by walk_at "m:lk", by walk_at "m:lk", by walk_at "m:lk", by walk_at "m:lk", by rw [if_neg (by omega), if_pos (by simp at h11; omega)]; exact lk_eq⟩
                  · repeat walk_at "m:e"
                    refine sLast (l := tl') hTL.symm (by omega) ?_ (by rfl) (by intro _; rfl)
                    repeat walk_at "m:e"
                    refine quote_spec (G.keeps S₈.F.keep) am.deeper (by omega) (fun h₉ tk₉ t₉ st₉ => ?_)
                    replace S₈ := S₈.stay st₉
                    have hq3 : (quo c).length = 3 := rfl
                    repeat walk_at "m:e"
                    rename_i S₁₀
                    exact Nx.next ⟨_, _, _, _, rfl, S₁₀, by walk_at "m:lk", by walk_at "m:lk", by walk_at "m:lk", ⟨_, by walk_at "m:lk"⟩, by walk_at "m:lk", by walk_at "m:lk", by walk_at "m:lk", by walk_at "m:lk", by walk_at "m:lk", by rw [if_neg (by omega), if_neg (by simp at h11; omega)]; exact lk_eq⟩
              · rintro s' ⟨h₁₁, tk₁₁, m₁₁, tq, rfl, S₁₁, hbo, hsb, hml, ⟨tm1, hm1⟩, heb, hap, heo, hli, hst, hq⟩
                have hqq : (if TL.length + 2 ≤ st + R then quo c else if TL.length + 1 = st + R then [c] ++ ([61] ++ e) else [61] ++ e ++ quo c).length ≤ 10 := by
                  split
                  · simp [quo]
                  · split <;> simp [quo] <;> omega
                generalize hQQ : (if TL.length + 2 ≤ st + R then quo c else if TL.length + 1 = st + R then [c] ++ ([61] ++ e) else [61] ++ e ++ quo c) = qq at *
                repeat walk_at "m:e"
                rename_i S₁₂
                refine TurnEnd.next S₁₂ ⟨by walk_at "m:lk", by walk_at "m:lk", by walk_at "m:lk", ⟨_, by walk_at "m:lk"⟩, by walk_at "m:lk", by walk_at "m:lk", by walk_at "m:lk", _, _, rfl, ?_⟩
                rw [hstep, hit, hlast, ← ecut, ← List.append_assoc]
                exact hus.snoc
          · have hlast : beLast e R tl st = tl.drop st := by
              unfold beLast
              split
              · rename_i c hg
                rw [hg] at hbl
                rw [if_neg (by simpa using hbl)]
              · rfl
            repeat walk_at "m:e"
            rename_i S₈
            refine TurnEnd.next S₈ ⟨by walk_at "m:lk", by walk_at "m:lk", by walk_at "m:lk", ⟨_, by walk_at "m:lk"⟩, by walk_at "m:lk", by walk_at "m:lk", by walk_at "m:lk", _, _, rfl, ?_⟩
            rw [hstep, hit, hlast, ← cut_n, ← List.append_assoc]
            exact hus.snoc
  · rintro m₁ news₁ h₃ tk₃ ⟨hbo, hsb, hml, ⟨tm1, hm1⟩, heb, hap, heo, us, k, rfl, hus⟩ S
    have hLl : us₂.length = Ls.length := Txts.length hus₂
    rw [hLl, List.take_length] at hus
    have hil := items_len he R 3001 Ls (by omega)
    have hil1 := hil.1
    have hul := hus.length
    have hTne : T ≠ [] := by
      rw [← hTT]
      cases ss with
      | nil => exact absurd rfl hne
      | cons a r => rw [List.flatMap_cons]; unfold tr; split <;> simp [quo]
    obtain ⟨T', c, rfl⟩ : ∃ T' c, T = T' ++ [c] := by
      rcases List.eq_nil_or_concat T with h | ⟨a, b, h⟩
      · exact absurd h hTne
      · exact ⟨a, b, by rw [h, List.concat_eq_append]⟩
    obtain ⟨tC, hC⟩ := gl_CRLF w
    have hsum : ∀ X : List (List Nat), X.length ≤ 3002 → (∀ x ∈ X, x.length ≤ 3011) → (X.map (·.length)).sum + X.length * e.length ≤ 16777216 := fun X h1 h2 => by
      have h3 := sum_le_mul h2
      have h4 : X.length * 3011 ≤ 3002 * 3011 := Nat.mul_le_mul_right _ h1
      have h5 : X.length * e.length ≤ 3002 * 2 := Nat.mul_le_mul h1 he
      omega
    repeat walk_at "m:e"
    refine sLast (l := T') rfl (by omega) ?_ (by rfl) (by intro _; rfl)
    refine nmK G S hC ?_
    repeat walk_at "m:e"
    refine iteD (fun h1 => ?_) (fun h1 => ?_)
    · repeat walk_at "m:e"
      rename_i S₄
      refine sJoin ⟨_, S₄.get (.tail _ (.tail _ (.head _))), rfl, _, rfl⟩ (hus.snoc (cur := [])) (hsum _ (by rw [List.length_append]; simp only [List.length_cons, List.length_nil]; omega) (fun x hx => ?_)) (fun t' tk' => ?_)
      · rcases List.mem_append.mp hx with hx | hx
        · exact hil.2 x hx
        · rw [List.mem_singleton.mp hx]; simp
      · repeat walk_at "m:e"
        have q' := q _ tk' t' S₄.F.keep
        rw [if_pos (by simpa using h1)] at q'
        exact q'
    · repeat walk_at "m:e"
      refine sJoin ⟨_, S.get (.tail _ (.tail _ (.head _))), rfl, _, rfl⟩ hus (hsum _ (by omega) hil.2) (fun t' tk' => ?_)
      repeat walk_at "m:e"
      have q' := q _ tk' t' S.F.keep
      rw [if_neg (by simpa using h1), List.append_nil] at q'
      exact q'

-- NbQ
set_option maxRecDepth 100000
theorem typeCall_int_2 (a b : Value) : checkTypeCall "int" ⟨[a, b], []⟩ = pure () := by kernel_rfl
theorem newCall_int_2 (a b : Value) : checkBuiltinCall "int.__new__" ⟨[.type "int", a, b], []⟩ = pure () := by kernel_rfl
theorem initArgs_int_2 (obj a b : Value) : argsOk "object.__init__" ⟨[obj, a, b], []⟩ := F.initArgs_range_2 obj a b
theorem wpAny_eq {α : Type} {M : Model} {A : Around} {E : Value → Shared → Prop} {s : Shared} {t t' : Sem α} {Q : α → Shared → Prop} (e : t = t') (q : wpAny M A t' Q E s) : wpAny M A t Q E s := e ▸ q
/-- int of two figures to base 16 -/
noncomputable def hexV (x y n : Nat) : Prop := ∀ t u : Tok, Meets (Builtin.«int.__new__» ⟨[.type "int", .str (tx [x, y]) t, .int 16 u], []⟩) (Made.int (n : Int)).spec
/-- the signs that decode has to read back -/
noncomputable def five (c : Nat) : Prop := c = 0 ∨ c = 255 ∨ c = 61 ∨ c = 32 ∨ c = 9
theorem five_lt {c : Nat} (h : five c) : c < 256 := by unfold five at h; omega
theorem five_hex {c : Nat} (hc : five c) : hexV (hexU.getD (c / 16) 0) (hexU.getD (c % 16) 0) c := fun t u => (Gives.of_wp fun M A E s Q h => by
    obtain ⟨hp, g, d, tk, os⟩ := s
    have f1 := F.conv_sub_int
    have f2 := F.madeHere_int
    repeat (any_goals (first | assumption | wp_step))
    refine wpAny_eq (t' := mkInt (c : Int)) ?_ ?_
    · rcases hc with rfl | rfl | rfl | rfl | rfl <;> kernel_rfl
    repeat (any_goals (first | assumption | wp_step))
    exact ⟨_, rfl, h⟩ : Gives _ (.int (c : Int))).meets
section
variable {prog : Program} {w : World} {A : Around} {E : Value → Shared → Prop} {s : Shared} {h : Heap} {tk : Nat} {Q : Value → Shared → Prop}
theorem iHex {x y n : Nat} {t u : Tok} (hx : hexV x y n) (q : Q (.int (n : Int) tk) (Sh s h (tk + 1))) : wpAny (model prog w) A (call (.type "int") [.str (tx [x, y]) t, .int 16 u]) Q E (Sh s h tk) :=
  callType_new (s := Sh s h tk) F.called_int F.newNe_int (typeCall_int_2 _ _) (newCall_int_2 _ _) (fun obj => initArgs_int_2 obj _ _) F.entry_int_new (hx t u) (show (Made.int (n : Int)).post _ (Sh s h tk) from ⟨rfl, q⟩)
theorem sChr {c : Nat} {t : Tok} (hc : c < 256) (q : Q (.str (tx [c]) tk) (Sh s h (tk + 1))) : wpAny (model prog w) A (call (.builtin "chr") [.int (c : Int) t]) Q E (Sh s h tk) :=
  P.chr_of_int (s := Sh s h tk) (by simp; omega) (by rw [Int.toNat_natCast]; exact q)
end
set_option maxHeartbeats 4000000 in
theorem unquote_spec {w : World} {A : Around} {s : Shared} {h : Heap} {tk : Nat} {c : Nat} {t : Tok} {Q : Value → Shared → Prop} {E : Value → Shared → Prop} (G : Gd w h) (am : Am A 1) (hc : five c)
    (q : ∀ h' tk t', (∀ b o, h.get? b = some o → h'.get? b = some o) → Q (.str (tx [c]) t') (Sh s h' tk)) :
    wpAny (model prg w) A (call (.ref 44) [.str (tx (quo c)) t]) Q E (Sh s h tk) := by
  refine callD (binds := [(Str.ofString "s", .str (tx (quo c)) t)]) G (by rfl) (by rfl) am.dp (BindsTo.of_eq rfl) (locs rfl) (fun h₁ tk₁ S => ?_) rfl rfl rfl (by decide)
  have hq : (quo c).length = 3 := rfl
  repeat walk_at "m:d"
  have hcut : cut (quo c) (some 1) (some 3) = [hexU.getD (c / 16) 0, hexU.getD (c % 16) 0] := rfl
  rw [hcut]
  repeat walk_at "m:d"
  refine iHex (five_hex hc) ?_
  repeat walk_at "m:d"
  refine sChr (five_lt hc) ?_
  repeat walk_at "m:d"
  exact q _ _ _ (St.F (by assumption)).keep

-- NbR
/-- signs and how they are written -/
inductive Dec : List Nat → List Nat → Prop
  | nil : Dec [] []
  | one {c : Nat} {r a : List Nat} : safe c = true → Dec r a → Dec (c :: r) (c :: a)
  | quo {c : Nat} {r a : List Nat} : five c → Dec r a → Dec (quo c ++ r) (c :: a)
noncomputable def rowT (d : List Nat × List Nat × Bool) : List Nat := d.1 ++ (if d.2.2 then [61] else [])
noncomputable def dOut (e : List Nat) (d : List Nat × List Nat × Bool) : List Nat := d.2.1 ++ (if d.2.2 then [] else e)
noncomputable def hexD : List Nat := [48, 49, 50, 51, 52, 53, 54, 55, 56, 57, 97, 98, 99, 100, 101, 102, 65, 66, 67, 68, 69, 70]
theorem gl_HEXD (w : World) : ∃ t, nsIn (KK w) mainGlobals (Str.ofString "hexdigits") = some (some (.str (tx hexD) t)) := ⟨_, by rfl⟩
theorem five_in {c : Nat} (h : five c) : hexU.getD (c / 16) 0 ∈ hexD ∧ hexU.getD (c % 16) 0 ∈ hexD := by
  rcases h with rfl | rfl | rfl | rfl | rfl <;> decide
theorem rstrip_tx {x : List Nat} (h : ∀ c, x.getLast? = some c → Unicode.isSpace c = false) : Txt.rstrip (tx x) = tx x := by
  unfold Txt.rstrip Txt.stripBy
  rw [if_pos]
  unfold stripSame stripHi stripLo
  simp only [Bool.false_eq_true, if_false, if_true, beq_self_eq_true, Bool.true_and, beq_iff_eq, List.drop_zero, tx_cps]
  have : x.reverse.takeWhile Unicode.isSpace = [] := by
    rcases List.eq_nil_or_concat x with rfl | ⟨a, b, rfl⟩
    · rfl
    · rw [List.concat_eq_append] at h ⊢
      rw [List.reverse_append]
      have := h b (by simp)
      simp [this]
  rw [this]; rfl
theorem endswith_tx (p e : List Nat) : Txt.endswith (tx (p ++ e)) (tx e) = true := by
  unfold Txt.endswith Builtin.Str.subAt
  rw [tx_len, tx_len]
  simp [tx]
section
variable {prog : Program} {w : World} {A : Around} {E : Value → Shared → Prop} {s : Shared} {h : Heap} {tk : Nat} {Q : Value → Shared → Prop} {a b : Int} {t u : Tok} {x : List Nat}
theorem iIAdd (q : Q (.int (a + b) tk) (Sh s h (tk + 1))) : wpAny (model prog w) A (inplaceOp .Add (.int a t) (.int b u)) Q E (Sh s h tk) := iadd_int (s := Sh s h tk) q
theorem sRstrip (hx : ∀ c, x.getLast? = some c → Unicode.isSpace c = false) (hz : x.length ≤ 100000) (q : ∀ t' tk', Q (.str (tx x) t') (Sh s h tk')) : wpAny (model prog w) A (call (.builtin "str.rstrip") [.str (tx x) t]) Q E (Sh s h tk) :=
  SC.rstrip (s := Sh s h tk) (fun t' k => by rw [rstrip_tx hx]; exact q t' k) (by rw [tx_len]; show _ ≤ 16777216; omega)
theorem sEndswith {p e : List Nat} (q : Q (.bool true) (Sh s h tk)) : wpAny (model prog w) A (call (.builtin "str.endswith") [.str (tx (p ++ e)) t, .str (tx e) u]) Q E (Sh s h tk) :=
  SC.endswith (s := Sh s h tk) (by rw [endswith_tx]; exact q)
end
theorem cut_end (p e : List Nat) (he : e ≠ []) : cut (p ++ e) none (some (-((e.length : Nat) : Int))) = p := by
  have : 0 < e.length := List.length_pos_iff.mpr he
  unfold cut
  simp only [Option.elim, List.drop_zero, Nat.sub_zero]
  rw [clipAt_neg _ _ this]
  simp

-- NbS2
local macro_rules | `(tactic| walk_at "m:f") => `(tactic| first
  | with_reducible refine seq_Continue ?_
  | with_reducible refine Cont.cont ?_
  | with_reducible refine iIAdd ?_
  | ((with_reducible refine' ldL ?sa ?sb ?sc ?sd ?se); (case sd => rfl); (case se => rfl); (case sa => with_reducible assumption); (case sb => walk_at "m:lk"))
  | walk_at "m:e")
set_option maxRecDepth 100000 in
set_option maxHeartbeats 4000000 in
theorem decode_spec {w : World} {A : Around} {s : Shared} {h : Heap} {tk : Nat} {X e OUT : List Nat} {D : List (List Nat × List Nat × Bool)} {t u : Tok} {Q : Value → Shared → Prop} {E : Value → Shared → Prop} (G : Gd w h) (am : Am A 2)
    (hX : X ≠ []) (hXl : X.length ≤ 1000000) (hbrk : ∀ c ∈ X, c = 13 ∨ c = 10 ∨ Unicode.isLineBreak c = false) (hLs : spl [] false X = D.map rowT)
    (hD : ∀ d ∈ D, Dec d.1 d.2.1 ∧ (∀ c, (rowT d).getLast? = some c → Unicode.isSpace c = false) ∧ (rowT d).length ≤ 1000) (he : e ≠ []) (he2 : e.length ≤ 2) (hO : (D.flatMap (dOut e)).length ≤ 100000)
    (hend : if X.getLast? = some 13 ∨ X.getLast? = some 10 then D.flatMap (dOut e) = OUT else D.flatMap (dOut e) = OUT ++ e)
    (q : ∀ h' tk t', (∀ b o, h.get? b = some o → h'.get? b = some o) → Q (.str (tx OUT) t') (Sh s h' tk)) :
    wpAny (model prg w) A (call (.ref 72) [.str (tx X) t, .str (tx e) u]) Q E (Sh s h tk) := by
  refine callD (binds := [(Str.ofString "encoded", .str (tx X) t), (Str.ofString "eol", .str (tx e) u)]) G (by rfl) (by rfl) am.dp (binds_K (s := Sh s h tk) G.k rfl (by rfl) rfl rfl rfl) (locs rfl) (fun h₁ tk₁ S => ?_) rfl rfl rfl (by decide)
  repeat walk_at "m:f"
  refine sTruthy (by omega) ?_
  rw [decide_eq_true hX]
  refine iteF ?_
  repeat walk_at "m:f"
  rename_i S'
  refine seq_any (For_invV h rfl rfl ?_ (hE := PassesOwn.never))
  repeat walk_at "m:f"
  refine sSplit S' hbrk (by omega) (fun lsp h₂ tk₂ us₂ S₂ hus₂ => ?_)
  clear S S'
  rw [hLs] at hus₂
  refine iter_list (fun i m nw => m (Str.ofString "encoded") = some (.str (tx X) t) ∧ m (Str.ofString "eol") = some (.str (tx e) u) ∧ (∃ t, m (Str.ofString "decoded") = some (.str (tx ((D.take i).flatMap (dOut e))) t)) ∧ nw = [(lsp, listOf us₂.toArray 0)])
    am.hh ⟨_, S₂.get (.head _), rfl, 0, rfl⟩ S₂ ⟨by walk_at "m:lk", by walk_at "m:lk", ⟨_, by walk_at "m:lk"⟩, rfl⟩ (.inr ⟨_, fun i m n hj => by obtain ⟨_, _, _, rfl⟩ := hj; exact .head _⟩) ?_ ?_
  · rintro i vv m₁ news₁ h₃ tk₃ it hv ⟨hen, heo, ⟨td, hde⟩, rfl⟩ S
    obtain ⟨r, tt, rfl, hr⟩ := Txts.item hus₂ hv
    rw [List.getElem?_map] at hr
    obtain ⟨d, hd, rfl⟩ := Option.map_eq_some_iff.mp hr
    obtain ⟨hdec, hlast, hrl⟩ := hD d (List.mem_of_getElem? hd)
    have hstep : (D.take (i + 1)).flatMap (dOut e) = (D.take i).flatMap (dOut e) ++ dOut e d := by rw [List.take_add_one, hd]; simp
    have hpre : ((D.take (i + 1)).flatMap (dOut e)).length ≤ 100000 := by
      have : D.flatMap (dOut e) = (D.take (i + 1)).flatMap (dOut e) ++ (D.drop (i + 1)).flatMap (dOut e) := by rw [← List.flatMap_append, List.take_append_drop]
      rw [this, List.length_append] at hO; omega
    rw [hstep] at hpre
    obtain ⟨x, a, k⟩ := d
    generalize hpr : (D.take i).flatMap (dOut e) = pr at *
    have hdo : dOut e (x, a, k) = a ++ (if k then [] else e) := rfl
    have hro : rowT (x, a, k) = x ++ (if k then [61] else []) := rfl
    dsimp only at hdec
    rw [hdo] at hstep hpre
    generalize hrr : rowT (x, a, k) = r at *
    simp only [List.length_append] at hpre
    repeat walk_at "m:f"
    refine sRstrip hlast (by omega) (fun t' tk' => ?_)
    repeat walk_at "m:f"
    rename_i S₄
    refine sTruthy (by omega) ?_
    by_cases hrn : r = []
    · rw [hrn] at hro
      have hk : k = false := by cases k with | false => rfl | true => simp at hro
      subst hk
      have hx : x = [] := by simpa using hro.symm
      subst hx
      cases hdec
      rw [decide_eq_false (by simpa using hrn)]
      refine iteT ?_
      simp only [List.nil_append, Bool.false_eq_true, if_false, List.length_nil] at hstep hpre
      repeat walk_at "m:f"
      rename_i S₅
      exact TurnEnd.cont S₅ ⟨by walk_at "m:lk", by walk_at "m:lk", ⟨_, by rw [hstep]; exact lk_eq⟩, rfl⟩
    · rw [decide_eq_true hrn]
      refine iteF ?_
      repeat walk_at "m:f"
      rename_i S₅
      generalize hsf : (if k = true then [61] else []) = sfx at *
      generalize htl : (if k = true then [] else e) = tail at *
      have hks : (k = false ∧ sfx = [] ∧ tail = e) ∨ (k = true ∧ sfx = [61] ∧ tail = []) := by
        cases k with
        | false => exact .inl ⟨rfl, by rw [← hsf]; rfl, by rw [← htl]; rfl⟩
        | true => exact .inr ⟨rfl, by rw [← hsf]; rfl, by rw [← htl]; rfl⟩
      have hdrop1 : ∀ (ii c : Nat) (rest : List Nat), r.drop ii = c :: rest → r[ii]? = some c ∧ r.drop (ii + 1) = rest ∧ r.length = ii + 1 + rest.length := by
        intro ii c rest hh
        have h1 : (r.drop ii)[0]? = some c := by rw [hh]; rfl
        rw [List.getElem?_drop, Nat.add_zero] at h1
        have h2 : r.drop (ii + 1) = rest := by rw [← List.drop_drop, hh]; rfl
        have h3 := congrArg List.length hh
        rw [List.length_drop, List.length_cons] at h3
        have h4 := (List.getElem?_eq_some_iff.mp h1).1
        exact ⟨h1, h2, by omega⟩
      refine seq_any (while_inv (fun n m nw => m (Str.ofString "encoded") = some (.str (tx X) t) ∧ m (Str.ofString "eol") = some (.str (tx e) u) ∧ (∃ t, m (Str.ofString "line") = some (.str (tx r) t)) ∧ (∃ t, m (Str.ofString "n") = some (.int (r.length : Nat) t)) ∧
        ∃ ii dec, (∃ t, m (Str.ofString "i") = some (.int (ii : Nat) t)) ∧ (∃ t, m (Str.ofString "decoded") = some (.str (tx dec) t)) ∧ nw = [it, (lsp, listOf us₂.toArray 0)] ∧ r.length - ii = n ∧
          ((ii = r.length ∧ dec = pr ++ (a ++ tail)) ∨ (ii < r.length ∧ ∃ x' a', r.drop ii = x' ++ sfx ∧ Dec x' a' ∧ dec ++ (a' ++ tail) = pr ++ (a ++ tail)))) (n₀ := r.length) S₅ ?_ ?_)
      · exact ⟨by walk_at "m:lk", by walk_at "m:lk", ⟨_, by walk_at "m:lk"⟩, ⟨_, by walk_at "m:lk"⟩, 0, pr, ⟨_, by walk_at "m:lk"⟩, ⟨_, by walk_at "m:lk"⟩, rfl, by omega, .inr ⟨List.length_pos_iff.mpr hrn, x, a, hro, hdec, rfl⟩⟩
      · rintro n m₂ nw₂ h₆ tk₆ S₆ ⟨hen, heo, ⟨tl, hli⟩, ⟨tn, hnn⟩, ii, dec, ⟨ti, hii⟩, ⟨tdd, hdd⟩, rfl, hmeas, hst⟩
        repeat walk_at "m:f"
        refine iteD (fun h7 => ?_) (fun h7 => ?_)
        · obtain ⟨hlt, x', a', hdr, hdc, hfin⟩ := hst.resolve_left (by omega)
          have hfl := congrArg List.length hfin
          simp only [List.length_append] at hfl
          cases hdc with
          | nil =>
            rcases hks with ⟨rfl, rfl, rfl⟩ | ⟨rfl, rfl, rfl⟩
            · have := congrArg List.length hdr; simp at this; omega
            · obtain ⟨g1, g2, g3⟩ := hdrop1 ii 61 [] hdr
              have hc : r[((ii : Nat) : Int).toNat]? = some 61 := by rw [Int.toNat_natCast]; exact g1
              simp only [List.length_nil] at g3
              repeat walk_at "m:f"
              walk_at "m:item"
              repeat walk_at "m:f"
              refine iteD (fun h8 => absurd rfl h8) (fun _ => ?_)
              repeat walk_at "m:f"
              refine iteB (fun _ => ?_) (fun h9 => absurd h9 (by simp; omega))
              repeat walk_at "m:f"
              rename_i S₇
              exact ⟨_, _, _, _, r.length - (ii + 1), rfl, S₇, by omega, by walk_at "m:lk", by walk_at "m:lk", ⟨_, by walk_at "m:lk"⟩, ⟨_, by walk_at "m:lk"⟩, ii + 1, dec, ⟨_, by rw [show ((ii + 1 : Nat) : Int) = (ii : Int) + 1 by omega]; exact lk_eq⟩, ⟨_, by walk_at "m:lk"⟩, rfl, rfl, .inl ⟨by omega, by simpa using hfin⟩⟩
          | @one c x'' a'' hsc hdc' =>
            have hc61 : c ≠ 61 := fun hh => by rw [hh] at hsc; exact absurd hsc (by decide)
            obtain ⟨g1, g2, g3⟩ := hdrop1 ii c (x'' ++ sfx) hdr
            have hc : r[((ii : Nat) : Int).toNat]? = some c := by rw [Int.toNat_natCast]; exact g1
            simp only [List.length_cons] at hfl
            repeat walk_at "m:f"
            walk_at "m:item"
            repeat walk_at "m:f"
            refine iteD (fun _ => ?_) (fun h8 => absurd (by simpa using hc61) h8)
            repeat walk_at "m:f"
            rename_i S₇
            refine iteB (fun h9 => ?_) (fun h9 => ?_)
            · have h9' : ii + 1 = r.length := by simp at h9; omega
              have hnil : x'' ++ sfx = [] := List.length_eq_zero_iff.mp (by omega)
              obtain ⟨rfl, rfl⟩ := List.append_eq_nil_iff.mp hnil
              cases hdc'
              rcases hks with ⟨rfl, _, rfl⟩ | ⟨_, hh, _⟩
              · simp only [List.length_nil] at hfl
                repeat walk_at "m:f"
                rename_i S₈
                exact ⟨_, _, _, _, r.length - (ii + 1), rfl, S₈, by omega, by walk_at "m:lk", by walk_at "m:lk", ⟨_, by walk_at "m:lk"⟩, ⟨_, by walk_at "m:lk"⟩, ii + 1, dec ++ [c] ++ tail, ⟨_, by rw [show ((ii + 1 : Nat) : Int) = (ii : Int) + 1 by omega]; walk_at "m:lk"⟩, ⟨_, by walk_at "m:lk"⟩, rfl, rfl, .inl ⟨by omega, by rw [← hfin]; simp⟩⟩
              · cases hh
            · have h9' : ¬ ii + 1 = r.length := by intro hh; simp at h9; omega
              repeat walk_at "m:f"
              exact ⟨_, _, _, _, r.length - (ii + 1), rfl, S₇, by omega, by walk_at "m:lk", by walk_at "m:lk", ⟨_, by walk_at "m:lk"⟩, ⟨_, by walk_at "m:lk"⟩, ii + 1, dec ++ [c], ⟨_, by rw [show ((ii + 1 : Nat) : Int) = (ii : Int) + 1 by omega]; walk_at "m:lk"⟩, ⟨_, by walk_at "m:lk"⟩, rfl, rfl, .inr ⟨by omega, x'', a'', g2, hdc', by rw [← hfin]; simp⟩⟩
          | @quo c x'' a'' h5 hdc' =>
            obtain ⟨g1, g2, g3⟩ := hdrop1 ii 61 (hexU.getD (c / 16) 0 :: hexU.getD (c % 16) 0 :: (x'' ++ sfx)) hdr
            obtain ⟨g4, g5, g6⟩ := hdrop1 _ _ _ g2
            obtain ⟨g7, g8, g9⟩ := hdrop1 _ _ _ g5
            obtain ⟨hh1, hh2⟩ := five_in h5
            have ec : cut r (some (ii : Int)) (some ((ii : Int) + 3)) = quo c := by
              rw [show (ii : Int) + 3 = ((ii + 3 : Nat) : Int) by omega, cut_nn, hdr, show ii + 3 - ii = 3 by omega]; rfl
            generalize hexU.getD (c / 16) 0 = d1 at *
            generalize hexU.getD (c % 16) 0 = d2 at *
            have hc : r[((ii : Nat) : Int).toNat]? = some 61 := by rw [Int.toNat_natCast]; exact g1
            have hc1 : r[((ii : Int) + 1).toNat]? = some d1 := by rw [show ((ii : Int) + 1).toNat = ii + 1 by omega]; exact g4
            have hc2 : r[((ii : Int) + 2).toNat]? = some d2 := by rw [show ((ii : Int) + 2).toNat = ii + 1 + 1 by omega]; exact g7
            obtain ⟨tH, hH⟩ := gl_HEXD w
            simp only [List.length_cons] at hfl
            repeat walk_at "m:f"
            walk_at "m:item"
            repeat walk_at "m:f"
            rename_i S₇
            refine iteD (fun h8 => absurd rfl h8) (fun _ => ?_)
            repeat walk_at "m:f"
            refine iteB (fun h9 => absurd h9 (by simp; omega)) (fun _ => ?_)
            repeat walk_at "m:f"
            refine iteD (fun _ => ?_) (fun h10 => absurd (by omega) h10)
            repeat walk_at "m:f"
            walk_at "m:item"
            refine nmK G S₇ hH ?_
            repeat walk_at "m:f"
            refine iteD (fun _ => ?_) (fun h10 => absurd hh1 h10)
            repeat walk_at "m:f"
            walk_at "m:item"
            refine nmK G S₇ hH ?_
            repeat walk_at "m:f"
            refine iteD (fun _ => ?_) (fun h10 => absurd hh2 h10)
            repeat walk_at "m:f"
            rename_i h₈ t₈ tk₈ S₈
            rw [ec]
            refine unquote_spec (G.keeps S₈.F.keep) am.deeper h5 (fun h₉ tk₉ t₉ st₉ => ?_)
            clear S₇
            replace S₈ := S₈.stay st₉
            repeat walk_at "m:f"
            rename_i S₁₀
            refine iteB (fun h9 => ?_) (fun h9 => ?_)
            · have h9' : ii + 3 = r.length := by simp at h9; omega
              have hnil : x'' ++ sfx = [] := List.length_eq_zero_iff.mp (by omega)
              obtain ⟨rfl, rfl⟩ := List.append_eq_nil_iff.mp hnil
              cases hdc'
              rcases hks with ⟨rfl, _, rfl⟩ | ⟨_, hh, _⟩
              · simp only [List.length_nil] at hfl
                repeat walk_at "m:f"
                rename_i S₁₁
                exact ⟨_, _, _, _, r.length - (ii + 3), rfl, S₁₁, by omega, by walk_at "m:lk", by walk_at "m:lk", ⟨_, by walk_at "m:lk"⟩, ⟨_, by walk_at "m:lk"⟩, ii + 3, dec ++ [c] ++ tail, ⟨_, by rw [show ((ii + 3 : Nat) : Int) = (ii : Int) + 3 by omega]; walk_at "m:lk"⟩, ⟨_, by walk_at "m:lk"⟩, rfl, rfl, .inl ⟨by omega, by rw [← hfin]; simp⟩⟩
              · cases hh
            · have h9' : ¬ ii + 3 = r.length := by intro hh; simp at h9; omega
              repeat walk_at "m:f"
              exact ⟨_, _, _, _, r.length - (ii + 3), rfl, S₁₀, by omega, by walk_at "m:lk", by walk_at "m:lk", ⟨_, by walk_at "m:lk"⟩, ⟨_, by walk_at "m:lk"⟩, ii + 3, dec ++ [c], ⟨_, by rw [show ((ii + 3 : Nat) : Int) = (ii : Int) + 3 by omega]; walk_at "m:lk"⟩, ⟨_, by walk_at "m:lk"⟩, rfl, rfl, .inr ⟨by omega, x'', a'', g8, hdc', by rw [← hfin]; simp⟩⟩
        · have hfin : dec = pr ++ (a ++ tail) := by
            rcases hst with ⟨_, hh⟩ | ⟨hh, _⟩
            · exact hh
            · exact absurd (by omega) h7
          repeat walk_at "m:f"
          exact TurnEnd.next S₆ ⟨hen, heo, ⟨_, by rw [hstep, ← hfin]; exact hdd⟩, rfl⟩
  · rintro m₁ news₁ h₃ tk₃ ⟨hen, heo, ⟨td, hde⟩, rfl⟩ S
    have hLl : us₂.length = D.length := by rw [Txts.length hus₂, List.length_map]
    rw [hLl, List.take_length] at hde
    obtain ⟨X', c, rfl⟩ : ∃ X' c, X = X' ++ [c] := by
      rcases List.eq_nil_or_concat X with h | ⟨a, b, h⟩
      · exact absurd h hX
      · exact ⟨a, b, by rw [h, List.concat_eq_append]⟩
    have hcl : (X' ++ [c]).getLast? = some c := by simp
    rw [hcl] at hend
    repeat walk_at "m:f"
    refine sLast (l := X') rfl (by omega) ?_ (by rfl) (by intro _; rfl)
    repeat walk_at "m:f"
    refine iteD (fun h1 => ?_) (fun h1 => ?_)
    · rw [if_neg (by simpa using h1)] at hend
      rw [hend] at hde hO
      simp only [List.length_append] at hO
      repeat walk_at "m:f"
      refine sEndswith ?_
      repeat walk_at "m:f"
      rename_i S₅
      rw [cut_end OUT e he]
      exact q _ _ _ S₅.F.keep
    · rw [if_pos (by have := h1; simp at this; by_cases h13 : c = 13; exact .inl (by rw [h13]); exact .inr (by rw [this h13]))] at hend
      rw [hend] at hde
      repeat walk_at "m:f"
      exact q _ _ _ S.F.keep

-- NbPE
theorem Dec.app {x a y b : List Nat} (h : Dec x a) (h2 : Dec y b) : Dec (x ++ y) (a ++ b) := by
  induction h with
  | nil => exact h2
  | one hs _ ih => exact .one hs ih
  | quo h5 _ ih => rw [List.append_assoc]; exact .quo h5 ih
noncomputable def okS (c : Nat) : Prop := safe c = true ∨ five c
theorem dec_fl {cs : List Nat} (h : ∀ c ∈ cs, okS c) : Dec (fl cs) cs := by
  induction cs with
  | nil => exact .nil
  | cons c cs ih =>
    rw [fl_cons]
    have ih' := ih fun x hx => h x (.tail _ hx)
    rcases h c (.head _) with hs | h5
    · rw [piece_safe hs]; exact .one hs ih'
    · cases hs : safe c with
      | true => rw [piece_safe hs]; exact .one hs ih'
      | false => rw [piece_quo hs]; exact .quo h5 ih'
theorem hex_safe : ∀ x ∈ hexU, safe x = true := by decide
theorem five_safe {c : Nat} (h : five c) : ∀ x ∈ quo c, safe x = true ∨ x = 61 := by
  rcases h with rfl | rfl | rfl | rfl | rfl <;> decide
theorem Dec.chars {x a : List Nat} (h : Dec x a) : ∀ c ∈ x, safe c = true ∨ c = 61 := by
  induction h with
  | nil => intro c hc; cases hc
  | one hs _ ih =>
    intro c hc
    rcases List.mem_cons.mp hc with rfl | hc
    · exact .inl hs
    · exact ih c hc
  | quo h5 _ ih =>
    intro c hc
    rcases List.mem_append.mp hc with hc | hc
    · exact five_safe h5 c hc
    · exact ih c hc
theorem Dec.nil_inv {a : List Nat} (h : Dec [] a) : a = [] := by cases h; rfl
theorem Dec.len {x a : List Nat} (h : Dec x a) : a.length ≤ x.length := by
  induction h with
  | nil => simp
  | one _ _ ih => simp; exact ih
  | quo _ _ ih => simp [Mine.quo]; omega
theorem space_safe {c : Nat} (h : safe c = true) (h32 : c ≠ 32) (h9 : c ≠ 9) : Unicode.isSpace c = false := by
  have key : ∀ c, c < 127 → safe c = true → c ≠ 32 → c ≠ 9 → Unicode.isSpace c = false := by decide +kernel
  exact key c (safe_lt h) h h32 h9
theorem space_61 : Unicode.isSpace 61 = false := by decide +kernel
theorem brk_61 : Unicode.isLineBreak 61 = false := by decide +kernel
theorem safe_nb {c : Nat} (h : safe c = true ∨ c = 61) : c ≠ 13 ∧ c ≠ 10 := by
  rcases h with h | h
  · unfold safe at h; simp at h; omega
  · omega
/-- the fold's rows are written parts of the line -/
theorem fold_segs (R : Nat) (cs : List Nat) : ∃ (sg : List (List Nat)) (l : List Nat), rwFold R cs = (sg.map fl, fl l) ∧ sg.flatten ++ l = cs ∧ (cs ≠ [] → l ≠ []) := by
  suffices H : ∀ (cs : List Nat) (sg : List (List Nat)) (l pre : List Nat), sg.flatten ++ l = pre → (pre ≠ [] → l ≠ []) → ∃ (sg' : List (List Nat)) (l' : List Nat), cs.foldl (rwStep R) (sg.map fl, fl l) = (sg'.map fl, fl l') ∧ sg'.flatten ++ l' = pre ++ cs ∧ (pre ++ cs ≠ [] → l' ≠ []) by
    obtain ⟨sg, l, h1, h2, h3⟩ := H cs [] [] [] rfl (by simp)
    exact ⟨sg, l, h1, by simpa using h2, by simpa using h3⟩
  intro cs
  induction cs with
  | nil => intro sg l pre h1 h2; exact ⟨sg, l, rfl, by simpa using h1, by simpa using h2⟩
  | cons c cs ih =>
    intro sg l pre h1 h2
    rw [List.foldl_cons]
    have hst : rwStep R (sg.map fl, fl l) c = if (fl l).length + (piece c).length > R - 1 then (sg.map fl ++ [fl l], piece c) else (sg.map fl, fl l ++ piece c) := rfl
    rw [hst]
    split
    · obtain ⟨sg', l', g1, g2, g3⟩ := ih (sg ++ [l]) [c] (pre ++ [c]) (by rw [← h1]; simp) (by simp)
      refine ⟨sg', l', ?_, by rw [g2]; simp, by simpa using g3⟩
      rw [← g1, fl_one]; simp
    · obtain ⟨sg', l', g1, g2, g3⟩ := ih sg (l ++ [c]) (pre ++ [c]) (by rw [← h1]; simp) (by simp)
      refine ⟨sg', l', ?_, by rw [g2]; simp, by simpa using g3⟩
      rw [← g1, fl_app, fl_one]
theorem fl_end {l : List Nat} {c : Nat} (hb : c ≠ 32 ∧ c ≠ 9) : ∀ x, (fl (l ++ [c])).getLast? = some x → x ≠ 32 ∧ x ≠ 9 := by
  intro x hx
  rw [fl_app, fl_one] at hx
  cases hs : safe c with
  | true => rw [piece_safe hs] at hx; simp at hx; rw [← hx]; exact hb
  | false =>
    rw [piece_quo hs] at hx
    have := hex_ok _ (hex_get (c % 16))
    simp [quo] at hx
    rw [← hx]
    exact ⟨by simpa using this.2.2.2.2.1, by simpa using this.2.2.2.2.2⟩
theorem quo_end (l : List Nat) (c : Nat) : ∀ x, (l ++ quo c).getLast? = some x → x ≠ 32 ∧ x ≠ 9 := by
  intro x hx
  have := hex_ok _ (hex_get (c % 16))
  simp [quo] at hx
  rw [← hx]
  exact ⟨by simpa using this.2.2.2.2.1, by simpa using this.2.2.2.2.2⟩
theorem rows_dec (R : Nat) {cs : List Nat} (h : ∀ c ∈ cs, okS c) : ∃ (A : List (List Nat × List Nat)) (z : List Nat × List Nat), rowsOf R cs = A.map (fun p => p.1 ++ [61]) ++ [z.1] ∧ (∀ p ∈ A, Dec p.1 p.2) ∧ Dec z.1 z.2 ∧
    A.flatMap (·.2) ++ z.2 = cs ∧ (∀ c, z.1.getLast? = some c → c ≠ 32 ∧ c ≠ 9) := by
  obtain ⟨sg, l, h1, h2, h3⟩ := fold_segs R cs
  have hsg : ∀ s ∈ sg, ∀ c ∈ s, okS c := fun s hs c hc => h c (by rw [← h2]; exact List.mem_append_left _ (List.mem_flatten.mpr ⟨s, hs, hc⟩))
  have hl : ∀ c ∈ l, okS c := fun c hc => h c (by rw [← h2]; exact List.mem_append_right _ hc)
  unfold rowsOf
  rw [h1]
  have hA : ∀ sg : List (List Nat), (sg.map fun s => (fl s, s)).map (fun p : List Nat × List Nat => p.1 ++ [61]) = (sg.map fl).map (· ++ [61]) := by intro sg; simp
  have hA2 : ∀ sg : List (List Nat), (sg.map fun s => (fl s, s)).flatMap (·.2) = sg.flatten := by intro sg; induction sg <;> simp_all
  have hA3 : ∀ sg : List (List Nat), (∀ s ∈ sg, ∀ c ∈ s, okS c) → ∀ p ∈ sg.map (fun s => (fl s, s)), Dec p.1 p.2 := by
    intro sg hs p hp
    obtain ⟨s, hs', rfl⟩ := List.mem_map.mp hp
    exact dec_fl (hs s hs')
  rcases List.eq_nil_or_concat cs with hcs | ⟨cs', c, hcs⟩
  · subst hcs
    have h2' : sg.flatten = [] ∧ l = [] := List.append_eq_nil_iff.mp h2
    obtain ⟨h2a, rfl⟩ := h2'
    have hf : rwFold R [] = ([], []) := rfl
    rw [hf] at h1
    have : sg.map fl = [] := (Prod.mk.inj h1).1.symm
    have : sg = [] := List.map_eq_nil_iff.mp this
    subst this
    exact ⟨[], ([], []), rfl, by simp, .nil, rfl, by simp⟩
  rw [List.concat_eq_append] at hcs
  have hlne := h3 (by rw [hcs]; simp)
  obtain ⟨l', d, hl'⟩ : ∃ l' d, l = l' ++ [d] := by
    rcases List.eq_nil_or_concat l with h | ⟨a, b, h⟩
    · exact absurd h hlne
    · exact ⟨a, b, by rw [h, List.concat_eq_append]⟩
  have hd : d = c := by
    have : sg.flatten ++ l' ++ [d] = cs' ++ [c] := by rw [← hcs, ← h2, hl']; simp
    have := (List.append_inj' this rfl).2
    simpa using this
  subst hd
  have hcl : cs.getLast? = some d := by rw [hcs]; simp
  unfold rwEnd
  rw [hcl]
  dsimp only
  by_cases hb : d = 32 ∨ d = 9
  · rw [if_pos hb]
    have hs : safe d = true := by rcases hb with rfl | rfl <;> decide
    have h5 : five d := by unfold five; omega
    have hfl : fl l = fl l' ++ [d] := by rw [hl', fl_app, fl_one, piece_safe hs]
    split
    · refine ⟨sg.map fun s => (fl s, s), (fl l' ++ quo d, l), by rw [hA, hfl, List.dropLast_concat], hA3 sg hsg, ?_, by rw [hA2]; exact h2, quo_end _ _⟩
      rw [hl']
      have : quo d ++ [] = quo d := List.append_nil _
      exact (dec_fl fun c hc => hl c (by rw [hl']; simp [hc])).app (by have := Dec.quo h5 .nil; simpa using this)
    · refine ⟨(sg ++ [l]).map fun s => (fl s, s), ([], []), by rw [hA]; simp, hA3 _ ?_, .nil, by rw [hA2]; simpa using h2, by simp⟩
      intro s hs
      rcases List.mem_append.mp hs with hs | hs
      · exact hsg s hs
      · rw [List.mem_singleton.mp hs]; exact hl
  · rw [if_neg hb]
    have hnb : d ≠ 32 ∧ d ≠ 9 := ⟨fun e => hb (.inl e), fun e => hb (.inr e)⟩
    have plain : ∃ (A : List (List Nat × List Nat)) (z : List Nat × List Nat), (sg.map fl).map (· ++ [61]) ++ [fl l] = A.map (fun p => p.1 ++ [61]) ++ [z.1] ∧ (∀ p ∈ A, Dec p.1 p.2) ∧ Dec z.1 z.2 ∧ A.flatMap (·.2) ++ z.2 = cs ∧ (∀ c, z.1.getLast? = some c → c ≠ 32 ∧ c ≠ 9) :=
      ⟨sg.map fun s => (fl s, s), (fl l, l), by rw [hA], hA3 sg hsg, dec_fl hl, by rw [hA2]; exact h2, by rw [hl']; exact fl_end hnb⟩
    unfold rwMerge
    dsimp only
    rcases List.eq_nil_or_concat sg with hsn | ⟨sg', x, hsx⟩
    · rw [hsn] at plain ⊢; exact plain
    · rw [List.concat_eq_append] at hsx
      have hgl : (sg.map fl).getLast? = some (fl x) := by rw [hsx]; simp
      rw [hgl]
      dsimp only
      split
      · refine ⟨sg'.map fun s => (fl s, s), (fl x ++ fl l, x ++ l), by rw [hA, hsx]; simp, hA3 _ fun s hs => hsg s (by rw [hsx]; simp [hs]), ?_, by rw [hA2, ← h2, hsx]; simp, ?_⟩
        · exact (dec_fl (hsg x (by rw [hsx]; simp))).app (dec_fl hl)
        · rw [← fl_app, hl', ← List.append_assoc]; exact fl_end hnb
      · exact plain
theorem prt_head (l : List Nat) : ∀ (cur : List Nat) (cr : Bool), ∃ t p, prt cur cr l = (cur ++ t) :: p := by
  induction l with
  | nil => intro cur cr; exact ⟨[], [], by simp [prt]⟩
  | cons c r ih =>
    intro cur cr
    rw [prt]
    split
    · exact ih _ _
    split
    · exact ⟨[], _, by rw [List.append_nil]⟩
    split
    · exact ⟨[], _, by rw [List.append_nil]⟩
    · obtain ⟨t, p, e⟩ := ih (cur ++ [c]) false
      exact ⟨[c] ++ t, p, by rw [e]; simp⟩
theorem prt_one {ss : List Nat} (h : ss ≠ []) : prt [] false ss ≠ [[]] := by
  cases ss with
  | nil => exact absurd rfl h
  | cons c r =>
    rw [prt]
    simp only [Bool.false_eq_true, and_false, if_false]
    split
    · intro e; injection e with _ e2; exact prt_ne _ _ _ e2
    split
    · intro e; injection e with _ e2; exact prt_ne _ _ _ e2
    · obtain ⟨t, p, e⟩ := prt_head r ([] ++ [c]) false
      rw [e]; simp
theorem jn_tail (e : List Nat) (ls : List (List Nat)) (h : ls ≠ []) : ls.flatMap (· ++ e) = jn e ls ++ e := by
  induction ls with
  | nil => exact absurd rfl h
  | cons l ls ih =>
    cases ls with
    | nil => simp [jn]
    | cons m ls => rw [List.flatMap_cons, ih (by simp), jn]; simp
theorem jn_mem {e : List Nat} {P : Nat → Prop} (he : ∀ c ∈ e, P c) : ∀ (ls : List (List Nat)), (∀ l ∈ ls, ∀ c ∈ l, P c) → ∀ c ∈ jn e ls, P c
  | [], _, c, hc => by cases hc
  | [x], h, c, hc => h x (by simp) c hc
  | x :: y :: r, h, c, hc => by
    rw [jn] at hc
    rcases List.mem_append.mp hc with hc | hc
    · rcases List.mem_append.mp hc with hc | hc
      · exact h x (by simp) c hc
      · exact he c hc
    · exact jn_mem he (y :: r) (fun l hl => h l (.tail _ hl)) c hc
theorem jn_len (e : List Nat) : ∀ (ls : List (List Nat)), (jn e ls).length ≤ (ls.map (·.length)).sum + ls.length * e.length
  | [] => by simp [jn]
  | [x] => by simp [jn]
  | x :: y :: r => by
    have := jn_len e (y :: r)
    rw [jn]
    simp only [List.length_append, List.map_cons, List.sum_cons, List.length_cons, Nat.add_mul, Nat.one_mul] at this ⊢
    omega
/-- the rows of one line, with what they stand for -/
theorem line_D {R : Nat} {e : List Nat} {cs : List Nat} (h : ∀ c ∈ cs, okS c) : ∃ D : List (List Nat × List Nat × Bool), rowsOf R cs = D.map rowT ∧ D ≠ [] ∧ (∀ d ∈ D, Dec d.1 d.2.1 ∧ (∀ c, (rowT d).getLast? = some c → Unicode.isSpace c = false)) ∧ D.flatMap (dOut e) = cs ++ e ∧
    (cs ≠ [] → D.map rowT ≠ [[]]) := by
  obtain ⟨A, z, h1, h2, h3, h4, h5⟩ := rows_dec R h
  have hm : (A.map (fun p => (p.1, p.2, true)) ++ [(z.1, z.2, false)]).map rowT = A.map (fun p => p.1 ++ [61]) ++ [z.1] := by
    rw [List.map_append, List.map_map]
    congr 1
    show [z.1 ++ []] = [z.1]
    rw [List.append_nil]
  refine ⟨A.map (fun p => (p.1, p.2, true)) ++ [(z.1, z.2, false)], by rw [hm]; exact h1, by simp, ?_, ?_, ?_⟩
  · intro d hd
    rcases List.mem_append.mp hd with hd | hd
    · obtain ⟨p, hp, rfl⟩ := List.mem_map.mp hd
      refine ⟨h2 p hp, fun c hc => ?_⟩
      have : (p.1 ++ [61]).getLast? = some c := hc
      simp at this
      rw [← this]; exact space_61
    · rw [List.mem_singleton.mp hd]
      refine ⟨h3, fun c hc => ?_⟩
      have hc' : z.1.getLast? = some c := by
        have : (z.1 ++ []).getLast? = some c := hc
        rwa [List.append_nil] at this
      rcases h3.chars c (List.mem_of_getLast? hc') with hs | rfl
      · exact space_safe hs (h5 c hc').1 (h5 c hc').2
      · exact space_61
  · rw [List.flatMap_append, List.flatMap_map]
    have e1 : A.flatMap (fun p => dOut e (p.1, p.2, true)) = A.flatMap (·.2) := by
      clear h1 h2 h4 hm
      induction A with
      | nil => rfl
      | cons p A ih => rw [List.flatMap_cons, List.flatMap_cons, ih]; simp [dOut]
    rw [e1]
    have e2 : [(z.1, z.2, false)].flatMap (dOut e) = z.2 ++ e := by simp [dOut]
    rw [e2, ← List.append_assoc, h4]
  · intro hne hh
    rw [hm] at hh
    cases A with
    | nil =>
      have hz : z.1 = [] := by simpa using hh
      rw [hz] at h3
      have := h3.nil_inv
      rw [this] at h4
      exact hne (by simpa using h4.symm)
    | cons p A => simp at hh
theorem lines_D {R : Nat} {e : List Nat} (ls : List (List Nat)) (h : ∀ l ∈ ls, ∀ c ∈ l, okS c) : ∃ D : List (List Nat × List Nat × Bool), ls.flatMap (rowsOf R) = D.map rowT ∧ (ls ≠ [] → D ≠ []) ∧ (∀ d ∈ D, Dec d.1 d.2.1 ∧ (∀ c, (rowT d).getLast? = some c → Unicode.isSpace c = false)) ∧ D.flatMap (dOut e) = ls.flatMap (· ++ e) ∧
    (D.map rowT = [[]] → ls = [[]]) := by
  induction ls with
  | nil => exact ⟨[], rfl, by simp, by simp, rfl, by simp⟩
  | cons l ls ih =>
    obtain ⟨D1, a1, a2, a3, a4, a5⟩ := line_D (R := R) (e := e) (h l (.head _))
    obtain ⟨D2, b1, b2, b3, b4, b5⟩ := ih fun x hx => h x (.tail _ hx)
    refine ⟨D1 ++ D2, by rw [List.flatMap_cons, a1, b1, List.map_append], by simp [a2], ?_, by rw [List.flatMap_append, a4, b4, List.flatMap_cons], ?_⟩
    · intro d hd
      rcases List.mem_append.mp hd with hd | hd
      · exact a3 d hd
      · exact b3 d hd
    · intro hh
      rw [List.map_append] at hh
      have hl1 : 0 < (D1.map rowT).length := by rw [List.length_map]; exact List.length_pos_iff.mpr a2
      have hlen := congrArg List.length hh
      simp only [List.length_append, List.length_cons, List.length_nil] at hlen
      have h2n : D2.map rowT = [] := List.length_eq_zero_iff.mp (by omega)
      have hD2 : D2 = [] := List.map_eq_nil_iff.mp h2n
      have hls : ls = [] := Classical.byContradiction fun hc => (b2 hc) hD2
      rw [h2n, List.append_nil] at hh
      have hl : l = [] := Classical.byContradiction fun hc => a5 hc hh
      rw [hl, hls]
theorem rowsOf_len {R : Nat} (hR : 4 ≤ R) (hR2 : R ≤ 11) {cs : List Nat} (hc : cs.length ≤ 1000) : (rowsOf R cs).length ≤ 2001 ∧ ∀ x ∈ rowsOf R cs, x.length ≤ 31 := by
  obtain ⟨n1, n2, n3⟩ := rwFold_len hR cs
  have := rwEnd_len (R := R) (cs := cs) (dn := (rwFold R cs).1) (cur := (rwFold R cs).2) (dn' := (rwEnd R cs (rwFold R cs)).1) (cur' := (rwEnd R cs (rwFold R cs)).2) hR hR2 rfl (by omega) n2 n3
  unfold rowsOf
  refine ⟨by simp; exact this.1, fun x hx => ?_⟩
  rcases List.mem_append.mp hx with hx | hx
  · obtain ⟨y, hy, rfl⟩ := List.mem_map.mp hx
    have := this.2.2 y hy
    simp; exact this
  · rw [List.mem_singleton.mp hx]; have := this.2.1; omega
/-- what decode is given, and what it gives -/
theorem decode_law {R : Nat} (hR : 4 ≤ R) (hR2 : R ≤ 11) {e ss : List Nat} (he : e = [10] ∨ e = [13, 10] ∨ e = [13]) (hne : ss ≠ []) (hok : ∀ c ∈ ss, okS c ∨ c = 13 ∨ c = 10) :
    ∃ D : List (List Nat × List Nat × Bool), jn e ((prt [] false ss).flatMap (rowsOf R)) ≠ [] ∧ (∀ c ∈ jn e ((prt [] false ss).flatMap (rowsOf R)), c = 13 ∨ c = 10 ∨ Unicode.isLineBreak c = false) ∧
      spl [] false (jn e ((prt [] false ss).flatMap (rowsOf R))) = D.map rowT ∧ (∀ d ∈ D, Dec d.1 d.2.1 ∧ (∀ c, (rowT d).getLast? = some c → Unicode.isSpace c = false)) ∧
      (∀ d ∈ D, rowT d ∈ (prt [] false ss).flatMap (rowsOf R)) ∧ (D.flatMap (dOut e)).length ≤ (jn e (prt [] false ss)).length + e.length ∧
      (if (jn e ((prt [] false ss).flatMap (rowsOf R))).getLast? = some 13 ∨ (jn e ((prt [] false ss).flatMap (rowsOf R))).getLast? = some 10 then D.flatMap (dOut e) = jn e (prt [] false ss) else D.flatMap (dOut e) = jn e (prt [] false ss) ++ e) := by
  have hlok : ∀ l ∈ prt [] false ss, ∀ c ∈ l, okS c := by
    intro l hl c hc
    have h1 := prt_clean ss [] false (by simp) l hl c hc
    have h2 := prt_sub ss [] false (fun c => okS c ∨ c = 13 ∨ c = 10) (by simp) hok l hl c hc
    rcases h2 with h | h | h
    · exact h
    · exact absurd h h1.1
    · exact absurd h h1.2
  obtain ⟨D, d1, d2, d3, d4, d5⟩ := lines_D (R := R) (e := e) (prt [] false ss) hlok
  have hDne := d2 (prt_ne _ _ _)
  rw [jn_tail e _ (prt_ne _ _ _)] at d4
  generalize hrows : (prt [] false ss).flatMap (rowsOf R) = rows at *
  have hrne : rows ≠ [] := by rw [d1]; simpa using hDne
  have hchars : ∀ r ∈ rows, ∀ c ∈ r, safe c = true ∨ c = 61 := by
    intro r hr c hc
    rw [d1] at hr
    obtain ⟨d, hd, rfl⟩ := List.mem_map.mp hr
    unfold rowT at hc
    rcases List.mem_append.mp hc with hc | hc
    · exact (d3 d hd).1.chars c hc
    · split at hc
      · exact .inr (List.mem_singleton.mp hc)
      · cases hc
  have hclean : ∀ r ∈ rows, ∀ x ∈ r, x ≠ 13 ∧ x ≠ 10 := fun r hr x hx => safe_nb (hchars r hr x hx)
  have hprt : prt [] false (jn e rows) = rows := by
    rw [prt_jn he rows [] hrne hclean]
    cases rows with
    | nil => exact absurd rfl hrne
    | cons a b => rfl
  have hXne : jn e rows ≠ [] := by
    intro hX
    rw [hX] at hprt
    have : rows = [[]] := by rw [← hprt]; rfl
    rw [d1] at this
    exact prt_one hne (d5 this)
  have hspl := spl_prt (jn e rows) [] false
  have hlastX := prt_last (jn e rows) [] false hXne (by simp)
  rw [hprt] at hspl hlastX
  have hbrk : ∀ c ∈ jn e rows, c = 13 ∨ c = 10 ∨ Unicode.isLineBreak c = false := by
    refine jn_mem (P := fun c => c = 13 ∨ c = 10 ∨ Unicode.isLineBreak c = false) ?_ rows ?_
    · intro c hc
      rcases he with rfl | rfl | rfl
      · exact .inr (.inl (List.mem_singleton.mp hc))
      · simp at hc; rcases hc with h | h
        · exact .inl h
        · exact .inr (.inl h)
      · exact .inl (List.mem_singleton.mp hc)
    · intro l hl c hc
      rcases hchars l hl c hc with h | h
      · exact .inr (.inr (brk_safe h))
      · exact .inr (.inr (by rw [h]; exact brk_61))
  by_cases hl : rows.getLast? = some []
  · rw [if_pos hl] at hspl
    obtain ⟨D', d, hDD⟩ : ∃ D' d, D = D' ++ [d] := by
      rcases List.eq_nil_or_concat D with h | ⟨a, b, h⟩
      · exact absurd h hDne
      · exact ⟨a, b, by rw [h, List.concat_eq_append]⟩
    subst hDD
    have hrd : rowT d = [] := by
      rw [d1] at hl; simpa using hl
    have hdd : d.1 = [] ∧ d.2.2 = false := by
      unfold rowT at hrd
      obtain ⟨x1, x2⟩ := List.append_eq_nil_iff.mp hrd
      refine ⟨x1, ?_⟩
      cases hk : d.2.2 with
      | false => rfl
      | true => rw [hk] at x2; cases x2
    have hd3 := (d3 d (by simp)).1
    rw [hdd.1] at hd3
    have hout : dOut e d = e := by unfold dOut; rw [hd3.nil_inv, hdd.2]; rfl
    have hfin : D'.flatMap (dOut e) = jn e (prt [] false ss) := by
      rw [List.flatMap_append] at d4
      have : [d].flatMap (dOut e) = e := by simp [hout]
      rw [this] at d4
      exact List.append_cancel_right d4
    refine ⟨D', hXne, hbrk, ?_, fun x hx => d3 x (by simp [hx]), fun x hx => by rw [d1]; exact List.mem_map_of_mem (by simp [hx]), by rw [hfin]; omega, ?_⟩
    · rw [hspl, d1, List.map_append]; simp
    · rw [if_pos (hlastX.mp hl)]; exact hfin
  · rw [if_neg hl] at hspl
    refine ⟨D, hXne, hbrk, by rw [hspl, d1], d3, fun x hx => by rw [d1]; exact List.mem_map_of_mem hx, by rw [d4, List.length_append]; exact Nat.le_refl _, ?_⟩
    rw [if_neg (fun h => hl (hlastX.mpr h))]; exact d4

-- NbPF
noncomputable def figN (ns : List Int) : List Nat := [7, 62] ++ ns.map fun x => (if x % 4 < 2 then 62 + x % 4 else x / 4 % 64).toNat
theorem figN_cast (ns : List Int) : figs ns = (figN ns).map fun n : Nat => (n : Int) := by
  unfold figs figN
  rw [List.map_append, List.map_map]
  congr 1
  apply List.map_congr_left
  intro x _
  simp only [Function.comp]
  split <;> omega
theorem figN_lt (ns : List Int) : ∀ f ∈ figN ns, f < 64 := by
  intro f hf
  unfold figN at hf
  rcases List.mem_append.mp hf with hf | hf
  · simp at hf; omega
  · obtain ⟨x, _, rfl⟩ := List.mem_map.mp hf
    split <;> omega
theorem figN_len (ns : List Int) : (figN ns).length = ns.length + 2 := by simp [figN]
theorem sg_map2 {β : Type} {g g' : Nat → β} {al al' : Nat → Nat} (h61 : g 61 = g' 61) (h : ∀ f, f < 64 → g (al f) = g' (al' f)) : ∀ fs : List Nat, (∀ f ∈ fs, f < 64) → (sg al fs).map g = (sg al' fs).map g'
  | [], _ => rfl
  | [a], _ => rfl
  | [a, b], hf => by
    have ha := hf a (by simp); have hb := hf b (by simp)
    simp [sg, h61, h a ha, h (b / 16 * 16) (by omega)]
  | [a, b, c], hf => by
    have ha := hf a (by simp); have hb := hf b (by simp); have hc := hf c (by simp)
    simp [sg, h61, h a ha, h b hb, h (c / 4 * 4) (by omega)]
  | a :: b :: c :: d :: r, hf => by
    have ha := hf a (by simp); have hb := hf b (by simp); have hc := hf c (by simp); have hd := hf d (by simp)
    simp [sg, h a ha, h b hb, h c hc, h d hd, sg_map2 h61 h r (fun f hr => hf f (by simp [hr]))]
theorem sg_all {P : Nat → Prop} {al : Nat → Nat} (h61 : P 61) (h : ∀ f, f < 64 → P (al f)) : ∀ fs : List Nat, (∀ f ∈ fs, f < 64) → ∀ c ∈ sg al fs, P c
  | [], _, c, hc => by cases hc
  | [a], _, c, hc => by cases hc
  | [a, b], hf, c, hc => by
    have ha := hf a (by simp); have hb := hf b (by simp)
    simp [sg] at hc
    rcases hc with rfl | rfl | rfl
    · exact h a ha
    · exact h _ (by omega)
    · exact h61
  | [a, b, d], hf, c, hc => by
    have ha := hf a (by simp); have hb := hf b (by simp); have hd := hf d (by simp)
    simp [sg] at hc
    rcases hc with rfl | rfl | rfl | rfl
    · exact h a ha
    · exact h b hb
    · exact h _ (by omega)
    · exact h61
  | a :: b :: d :: e :: r, hf, c, hc => by
    have ha := hf a (by simp); have hb := hf b (by simp); have hd := hf d (by simp); have he := hf e (by simp)
    simp only [sg, List.mem_cons] at hc
    rcases hc with rfl | rfl | rfl | rfl | hc
    · exact h a ha
    · exact h b hb
    · exact h d hd
    · exact h e he
    · exact sg_all h61 h r (fun f hr => hf f (by simp [hr])) c hc
theorem sg_len (al : Nat → Nat) : ∀ fs : List Nat, (sg al fs).length ≤ fs.length + 2 ∧ (2 ≤ fs.length → sg al fs ≠ [])
  | [] => by simp [sg]
  | [a] => by simp [sg]
  | [a, b] => by simp [sg]
  | [a, b, c] => by simp [sg]
  | a :: b :: c :: d :: r => by have := (sg_len al r).1; simp [sg]; omega
theorem mt_get (x y : UInt8) {n : Nat} (hn : n < 256) (d : UInt8) : (mtTab x y).getD n d = if n = 47 then y else if n = 43 then x else n.toUInt8 := by
  unfold mtTab
  rw [Array.getD_eq_getD_getElem?]
  rw [Array.getElem?_setIfInBounds, Array.getElem?_setIfInBounds]
  by_cases h1 : n = 47
  · subst h1; simp
  · rw [if_neg (fun h => h1 h.symm), if_neg h1]
    by_cases h2 : n = 43
    · subst h2; simp
    · rw [if_neg (fun h => h2 h.symm), if_neg h2]
      simp [hn]
theorem b64_tab : ∀ f, f < 62 → b64 f ≠ 43 ∧ b64 f ≠ 47 ∧ b64 f < 256 ∧ b64 f = alpL.getD f 0 ∧ safe (alpL.getD f 0) = true := by decide +kernel
theorem alp_low (x y : Nat) {f : Nat} (h : f < 62) : alp x y f = alpL.getD f 0 := by
  unfold alp
  rw [List.getD_eq_getElem?_getD, List.getD_eq_getElem?_getD, List.getElem?_append_left (by simpa [alpL] using h)]
theorem alp_62 (x y : Nat) : alp x y 62 = x := rfl
theorem alp_63 (x y : Nat) : alp x y 63 = y := rfl
/-- base64 with other signs for + and / writes the law's signs -/
theorem written_eq (x y : UInt8) {fs : List Nat} (hf : ∀ f ∈ fs, f < 64) (hne : fs ≠ []) :
    (((b2aEnd (b2aFold (octF fs))).map (·.toUInt8)).toArray.map fun c => (mtTab x y).getD c.toNat c) = ((sgF (alp x.toNat y.toNat) fs).map (·.toUInt8)).toArray := by
  have h1 : b2aEnd (b2aFold (octF fs)) = sg b64 fs := by
    rw [octF_eq fs hf]; have := b2a_oc fs hf [] 0; simpa [b2aFold] using this
  rw [h1, sgF_eq _ fs hne, List.map_toArray, List.map_map]
  congr 1
  refine sg_map2 ?_ ?_ fs hf
  · have e61 : (Nat.toUInt8 61).toNat = 61 := by decide
    simp only [Function.comp, e61]
    rw [mt_get x y (by decide)]; rfl
  · intro f hf64
    have hlt : b64 f < 256 := b64_lt f
    have e : (b64 f).toUInt8.toNat = b64 f := by simp; omega
    simp only [Function.comp, e]
    rw [mt_get x y hlt]
    by_cases h62 : f < 62
    · obtain ⟨a1, a2, a3, a4, a5⟩ := b64_tab f h62
      rw [if_neg a2, if_neg a1, alp_low _ _ h62, ← a4]
    · have : f = 62 ∨ f = 63 := by omega
      rcases this with rfl | rfl
      · rw [show b64 62 = 43 from rfl, alp_62]; simp
      · rw [show b64 63 = 47 from rfl, alp_63]; simp
noncomputable def twoL : List (UInt8 × UInt8) := [(43, 47), (32, 10), (10, 9), (13, 10), (61, 32), (0, 255), (9, 32), (10, 13)]
theorem two_ok : ∀ p ∈ twoL, (safe p.1.toNat = true ∨ five p.1.toNat ∨ p.1.toNat = 13 ∨ p.1.toNat = 10) ∧ (safe p.2.toNat = true ∨ five p.2.toNat ∨ p.2.toNat = 13 ∨ p.2.toNat = 10) := by
  unfold five; decide +kernel
theorem two_pick (t0 t1 t2 t3 t4 t5 t6 t7 : Tok) : ∀ k, k < 8 → ∃ x y t, [Value.bytes #[43, 47] t0, Value.bytes #[32, 10] t1, Value.bytes #[10, 9] t2, Value.bytes #[13, 10] t3, Value.bytes #[61, 32] t4, Value.bytes #[0, 255] t5, Value.bytes #[9, 32] t6, Value.bytes #[10, 13] t7][k]? = some (Value.bytes #[x, y] t) ∧ (x, y) ∈ twoL
  | 0, _ => ⟨43, 47, t0, rfl, by decide⟩
  | 1, _ => ⟨32, 10, t1, rfl, by decide⟩
  | 2, _ => ⟨10, 9, t2, rfl, by decide⟩
  | 3, _ => ⟨13, 10, t3, rfl, by decide⟩
  | 4, _ => ⟨61, 32, t4, rfl, by decide⟩
  | 5, _ => ⟨0, 255, t5, rfl, by decide⟩
  | 6, _ => ⟨9, 32, t6, rfl, by decide⟩
  | 7, _ => ⟨10, 13, t7, rfl, by decide⟩
  | n + 8, h => by omega
theorem end_pick (t0 t1 t2 : Tok) : ∀ k, k < 3 → ∃ e t, [Value.str (tx [10]) t0, Value.str (tx [13, 10]) t1, Value.str (tx [13]) t2][k]? = some (Value.str (tx e) t) ∧ (e = [10] ∨ e = [13, 10] ∨ e = [13])
  | 0, _ => ⟨_, t0, rfl, .inl rfl⟩
  | 1, _ => ⟨_, t1, rfl, .inr (.inl rfl)⟩
  | 2, _ => ⟨_, t2, rfl, .inr (.inr rfl)⟩
  | n + 3, h => by omega
theorem signs_ok {x y : UInt8} (h : (x, y) ∈ twoL) {fs : List Nat} (hf : ∀ f ∈ fs, f < 64) (hne : fs ≠ []) : ∀ c ∈ sgF (alp x.toNat y.toNat) fs, (okS c ∨ c = 13 ∨ c = 10) ∧ c < 256 := by
  rw [sgF_eq _ fs hne]
  have ht := two_ok _ h
  refine sg_all (P := fun c => (okS c ∨ c = 13 ∨ c = 10) ∧ c < 256) ⟨.inl (.inr (by unfold five; omega)), by decide⟩ ?_ fs hf
  intro f hf64
  by_cases h62 : f < 62
  · obtain ⟨a1, a2, a3, a4, a5⟩ := b64_tab f h62
    rw [alp_low _ _ h62]
    exact ⟨.inl (.inl a5), by rw [← a4]; exact a3⟩
  · have : f = 62 ∨ f = 63 := by omega
    rcases this with rfl | rfl
    · rw [alp_62]
      refine ⟨?_, x.toNat_lt⟩
      rcases ht.1 with h | h | h
      · exact .inl (.inl h)
      · exact .inl (.inr h)
      · exact .inr h
    · rw [alp_63]
      refine ⟨?_, y.toNat_lt⟩
      rcases ht.2 with h | h | h
      · exact .inl (.inl h)
      · exact .inl (.inr h)
      · exact .inr h
theorem sgF_bound (al : Nat → Nat) {fs : List Nat} (h2 : 2 ≤ fs.length) (hn : fs.length ≤ 16) : (sgF al fs).length ≤ 18 ∧ sgF al fs ≠ [] := by
  have hne : fs ≠ [] := by intro e; rw [e] at h2; simp at h2
  rw [sgF_eq al fs hne]
  have := sg_len al fs
  exact ⟨by omega, this.2 h2⟩

-- NbT
/-- a list of lines: the objects of OB -/
inductive RefIs (OB : List (Addr × Obj)) : List Value → List (List Nat) → Prop
  | nil : RefIs OB [] []
  | cons {a : Addr} {us : List Value} {k : Nat} {cs : List Nat} {vs : List Value} {ls : List (List Nat)} : (a, listOf us.toArray k) ∈ OB → Chars us cs → RefIs OB vs ls → RefIs OB (.ref a :: vs) (cs :: ls)
theorem RefIs.snoc {OB : List (Addr × Obj)} {vs : List Value} {ls : List (List Nat)} {a : Addr} {us : List Value} {k : Nat} {cs : List Nat} (h : RefIs OB vs ls) (hm : (a, listOf us.toArray k) ∈ OB) (hc : Chars us cs) : RefIs OB (vs ++ [.ref a]) (ls ++ [cs]) := by
  induction h with
  | nil => exact .cons hm hc .nil
  | cons h1 h2 _ ih => exact .cons h1 h2 ih
theorem RefIs.of {OB ob : List (Addr × Obj)} {ls : List (List Nat)} (h : ObIs ob ls) (hs : ∀ p ∈ ob, p ∈ OB) : RefIs OB (ob.map fun p => Value.ref p.1).reverse ls.reverse := by
  induction h with
  | nil => exact .nil
  | cons hc _ ih =>
    rw [List.map_cons, List.reverse_cons, List.reverse_cons]
    exact (ih fun p hp => hs p (.tail _ hp)).snoc (hs _ (.head _)) hc
theorem RefIs.item {OB : List (Addr × Obj)} {vs : List Value} {ls : List (List Nat)} (h : RefIs OB vs ls) : ∀ {i : Nat} {v : Value}, vs[i]? = some v → ∃ a us k cs, v = .ref a ∧ (a, listOf us.toArray k) ∈ OB ∧ Chars us cs ∧ ls[i]? = some cs := by
  induction h with
  | nil => intro i v hv; cases hv
  | cons h1 h2 _ ih =>
    intro i v hv
    cases i with
    | zero => cases hv; exact ⟨_, _, _, _, rfl, h1, h2, rfl⟩
    | succ i => exact ih hv
theorem RefIs.len {OB : List (Addr × Obj)} {vs : List Value} {ls : List (List Nat)} (h : RefIs OB vs ls) : vs.length = ls.length := by
  induction h with
  | nil => rfl
  | cons _ _ _ ih => simp [ih]
theorem RefIs.mem {OB : List (Addr × Obj)} {vs : List Value} {ls : List (List Nat)} (h : RefIs OB vs ls) {v : Value} (hv : v ∈ vs) : ∃ a us k cs, v = .ref a ∧ (a, listOf us.toArray k) ∈ OB ∧ Chars us cs ∧ cs ∈ ls := by
  obtain ⟨i, hi⟩ := List.mem_iff_getElem?.mp hv
  obtain ⟨a, us, k, cs, e, h1, h2, h3⟩ := h.item hi
  exact ⟨a, us, k, cs, e, h1, h2, List.mem_of_getElem? h3⟩
theorem strs_inj {vs : List Value} {xs : List Str} (h : StrsAre vs xs) : ∀ {ys : List Str}, StrsAre vs ys → xs = ys := by
  induction h with
  | nil => intro ys h2; cases h2; rfl
  | cons _ _ _ ih => intro ys h2; cases h2 with | cons _ _ h2 => rw [ih h2]
theorem chars_inj {vs : List Value} {cs ds : List Nat} (h : Chars vs cs) (h2 : Chars vs ds) : cs = ds := by
  have := strs_inj h h2
  clear h h2
  induction cs generalizing ds with
  | nil => cases ds with | nil => rfl | cons _ _ => cases this
  | cons c cs ih =>
    cases ds with
    | nil => cases this
    | cons d ds =>
      rw [List.map_cons, List.map_cons] at this
      injection this with e1 e2
      have e3 := tx_inj.mp e1
      cases e3
      rw [ih e2]
noncomputable def LineF (OB : List (Addr × Obj)) (v y : Value) : Prop := ∃ a us k cs t, v = .ref a ∧ (a, listOf us.toArray k) ∈ OB ∧ Chars us cs ∧ y = .str (tx cs) t
theorem RefIs.paired {OB : List (Addr × Obj)} (hnd : (OB.map (·.1)).Nodup) {vs : List Value} {ls : List (List Nat)} (h : RefIs OB vs ls) : ∀ {ys : List Value}, Paired (LineF OB) vs ys → Txts ys ls := by
  induction h with
  | nil => intro ys hP; cases hP; exact .nil
  | @cons a us k cs vs ls h1 h2 _ ih =>
    intro ys hP
    cases hP with
    | cons hF hP =>
      obtain ⟨a', us', k', cs', t, e1, h3, h4, rfl⟩ := hF
      injection e1 with e1
      subst e1
      have e2 : listOf us.toArray k = listOf us'.toArray k' := by
        have key : ∀ (l : List (Addr × Obj)), (l.map (·.1)).Nodup → ∀ {o o'}, (a, o) ∈ l → (a, o') ∈ l → o = o' := by
          intro l
          induction l with
          | nil => intro _ o o' h; cases h
          | cons p l ih =>
            intro hn o o' ho ho'
            rw [List.map_cons, List.nodup_cons] at hn
            rcases List.mem_cons.mp ho with e1 | ho1
            · rcases List.mem_cons.mp ho' with e2 | ho2
              · rw [← e1] at e2; cases e2; rfl
              · rw [← e1] at hn; exact absurd (List.mem_map_of_mem (f := (·.1)) ho2) hn.1
            · rcases List.mem_cons.mp ho' with e2 | ho2
              · rw [← e2] at hn; exact absurd (List.mem_map_of_mem (f := (·.1)) ho1) hn.1
              · exact ih hn.2 ho1 ho2
        exact key OB hnd h1 h3
      have e3 : us = us' := by
        have := congrArg Obj.data e2
        injection this with e4
        have := congrArg Array.toList e4
        simpa using this
      subst e3
      rw [chars_inj h4 h2]
      exact .cons _ _ (ih hP)
section
variable {prog : Program} {w : World} {A : Around} {E : Value → Shared → Prop} {s : Shared} {h : Heap} {tk : Nat} {h₀ : Heap} {L D : Addr} {m : Str → Option Value} {news : List (Addr × Obj)} {Q : Value → Shared → Prop}
theorem lSum {l : Addr} {vs : List Value} {ns : List Int} (hh : A.handled = none) (hl : h.IsList l vs.toArray) (hi : IntsAre vs ns) (q : ∀ h' tk' t', (∀ b o, h.get? b = some o → h'.get? b = some o) → Q (.int ns.sum t') (Sh s h' tk')) :
    wpAny (model prog w) A (call (.builtin "sum") [.ref l]) Q E (Sh s h tk) := by
  obtain ⟨xs, hx⟩ := hi.allInts.items
  rw [hx] at hl
  refine sum_intListG (s := Sh s h tk) hh hl fun h' tk' t' hk => ?_
  have e : preSum (numAt xs) xs.size = ns.sum := by
    rw [preSum_eq, List.take_of_length_le (by simp), ← nums_intItems, ← hx, show vs.toArray.toList = vs from rfl, hi.numsOf]
  rw [e]
  exact q h' tk' t' hk
theorem ext1 {b : Addr} {ys zs : List Value} {n n2 : Nat} (S : St h₀ L h m ((D, listOf ys.toArray n) :: news)) (hb : h.get? b = some (listOf zs.toArray n2)) (hz : ys.length + zs.length ≤ 1000000)
    (q : ∀ h' n', St h₀ L h' m ((D, listOf (ys ++ zs).toArray n') :: news) → Q .none (Sh s h' tk)) : wpAny (model prog w) A (call (.builtin "list.extend") ([.ref D] ++ [.ref b])) Q E (Sh s h tk) := by
  refine extend_in (s := Sh s h tk) (own := []) (rest := news) (its2 := zs.toArray) S.F S.N (by simp) (fun p hp e => ?_) hb (fun h' n' F' N' => ?_) (by rw [List.size_toArray]; show _ ≤ 16777216; omega)
  · exact (List.nodup_cons.mp S.D).1 (e ▸ List.mem_map_of_mem (f := (·.1)) hp)
  · exact q h' n' ⟨F', N', by rw [List.map_cons, List.nodup_cons]; exact List.nodup_cons.mp S.D⟩
theorem gmExtend {its : Array Value} {k : Nat} {pl : Sem Bool} {K : Value → List Value → Shared → Prop} (S : St h₀ L h m news) (hm : (D, listOf its k) ∈ news) (q : K (.builtin "list.extend") [.ref D] (Sh s h tk)) :
    GetM (model prog w) A (.ref D) (Str.ofString "extend") pl K E (Sh s h tk) := by
  unfold GetM
  with_reducible exact listMethod_K (s := Sh s h tk) (Q := fun fx s₂ => K fx.1 fx.2 s₂) S.N hm PySem.F.slot_list_extend PySem.F.type_list_extend q
theorem nmCB {x : Str} {v : Value} {C a : Addr} {pos : Pos} {scope cs : Scope} {cl cl' : List (Str × Addr)} {cn : Str} {ccd : Value} {M : Model} (G : Gd w h) (hv : bootBuiltins x = some v) (e : nsIn (KK w) mainGlobals x = some none) (hn : x ≠ "__name__") (q : Q v (Sh s h tk))
    (hk : scope.kind = .function) (hx : (compEnvC scope cl C (envX cn cs L a ccd cl')).kindOf x = some .globalImplicit) (hd : (x == ("__debug__" : Str)) = false) :
    wpAny M A (eval (.Name x pos) (compEnvC scope cl C (envX cn cs L a ccd cl'))) Q E (Sh s h tk) :=
  let ⟨_, _, _, _, T⟩ := G.t
  Name_function_global (s := Sh s h tk) hk hx (loadGlobal_builtin (env := compEnvC scope cl C (envX cn cs L a ccd cl')) T.g (mg_none_of G.k T.g e) T.b ((T.builtins x hn).trans hv) q) hd
theorem compBytesC {env : Env} {x : Str} {elt : Expr} {scope : Scope} {cl : List (Str × Addr)} {b : Array UInt8} {t : Tok} {F : Value → Value → Prop} (hh : A.handled = none) (S : St h₀ L h m news) (hz : b.size ≤ 1000000)
    (turn : ∀ C (c : UInt8) u s₃ h' tk' mC, c ∈ b.toList → h'.Ns C mC → mC x = some (.int (c.toNat : Int) u) → (∀ b o, h.get? b = some o → h'.get? b = some o) → wpAny (model prog w) A (eval elt (compEnvC scope cl C env)) (EltEnd F (.int (c.toNat : Int) u) s₃ h') NoE (Sh s₃ h' tk'))
    (done : ∀ d h' tk' ys vs k, St h₀ L h' m ((d, listOf ys.toArray k) :: news) → NatsAre vs (b.toList.map (·.toNat)) → Paired F vs ys → Q (.ref d) (Sh s h' tk')) : CompSrcC prog w A env scope cl x elt F Q E (.bytes b t) (Sh s h tk) := by
  refine KBw.pyIter_bytes (s := Sh s h tk) ?_
  have W := KBw.walks (prog := prog) (w := w) hh h.objs.size b t
  have pk : ∀ a o, h.get? a = some o → (h.push { cls := .type "bytes_iterator", data := .fields #[.bytes b t, .int 0 0] }).get? a = some o := fun _ _ e => Heap.get?_push_of_some _ e
  refine compWalkC (h := h.push { cls := .type "bytes_iterator", data := .fields #[.bytes b t, .int 0 0] }) (tk := tk) W hz ⟨_, Heap.get?_push_size _ rfl, rfl, rfl⟩ ?_
    (S.one (o := { cls := .type "bytes_iterator", data := .fields #[.bytes b t, .int 0 0] }) pk (Heap.get?_push_size _ rfl) (fresh_size _)) ?_ ?_
  · intro a ha
    rw [Heap.size_push, List.mem_singleton.mp ha]; exact Nat.lt_succ_self _
  · rintro C i v s₃ h' tk' mC ⟨c, u, hc, rfl⟩ hN hm hk
    refine turn C c u s₃ h' tk' mC (List.mem_of_getElem? (by simpa using hc)) hN hm (fun a o e => hk a o (fun eb => ?_) (pk a o e))
    have := Heap.lt_size e; rw [eb] at this; exact Nat.lt_irrefl _ this
  · intro d h' tk' ys vs k S' hlen hP hF
    refine done d h' tk' ys vs k S' ?_ hF
    have key : ∀ (vs : List Value) (bs : List UInt8), vs.length = bs.length → (∀ (j : Nat) v, vs[j]? = some v → ∃ c u, bs[j]? = some c ∧ v = .int (c.toNat : Int) u) → NatsAre vs (bs.map (·.toNat)) := by
      intro vs
      induction vs with
      | nil => intro bs hl _; cases bs with | nil => exact .nil | cons _ _ => cases hl
      | cons v vs ih =>
        intro bs hl hv
        cases bs with
        | nil => cases hl
        | cons c bs =>
          obtain ⟨c', u, e1, rfl⟩ := hv 0 v rfl
          cases e1
          exact .cons _ _ (ih bs (by simpa using hl) fun j v hj => hv (j + 1) v hj)
    refine key vs b.toList (by simpa using hlen) fun j v hj => ?_
    obtain ⟨c, u, hc, e⟩ := hP j v hj
    exact ⟨c, u, by simpa using hc, e⟩
theorem bNe {b c : Array UInt8} {t u : Tok} (q : Q (.bool (decide (b ≠ c))) (Sh s h tk)) : wpAny (model prog w) A (compareOp .NotEq (.bytes b t) (.bytes c u)) Q E (Sh s h tk) := by
  refine ne_bytes (s := Sh s h tk) ?_
  have : (b.toList != c.toList) = decide (b ≠ c) := by
    rw [Bool.eq_iff_iff, bne_iff_ne, decide_eq_true_eq]
    exact not_congr Array.toList_inj
  rw [this]; exact q
end

-- NbW
local macro_rules | `(tactic| walk_at "m:g") => `(tactic| first
  | with_reducible refine kByt ?_
  | walk_at "m:f")
section
variable {prog : Program} {w : World} {A : Around} {E : Value → Shared → Prop} {s : Shared} {h : Heap} {tk : Nat} {h₀ : Heap} {L l : Addr} {m : Str → Option Value} {news : List (Addr × Obj)} {Q : Value → Shared → Prop} {value slice : Expr} {k : Int} {u : Tok}
theorem pick2 {t0 t1 t2 t3 t4 t5 t6 t7 : Tok} (S : St h₀ L h m ((l, listOf [Value.bytes #[43, 47] t0, Value.bytes #[32, 10] t1, Value.bytes #[10, 9] t2, Value.bytes #[13, 10] t3, Value.bytes #[61, 32] t4, Value.bytes #[0, 255] t5, Value.bytes #[9, 32] t6, Value.bytes #[10, 13] t7].toArray 0) :: news))
    (h0 : 0 ≤ k) (hk : k < 8) (q : ∀ x y t, (x, y) ∈ twoL → Q (.bytes #[x, y] t) (Sh s h tk)) (hs : subscripted slice false (.ref l) (.int k u) = operate [.ref l, .int k u] (getItem (.ref l) (.int k u))) :
    wpAny (model prog w) A (subscriptTail value slice (.ref l) (.int k u)) Q E (Sh s h tk) := by
  obtain ⟨x, y, t, hp, h2⟩ := two_pick t0 t1 t2 t3 t4 t5 t6 t7 k.toNat (by omega)
  exact lItem ⟨_, S.get (.head _), rfl, 0, rfl⟩ h0 (by omega) hp (q x y t h2) hs
theorem pick3 {t0 t1 t2 : Tok} (S : St h₀ L h m ((l, listOf [Value.str (tx [10]) t0, Value.str (tx [13, 10]) t1, Value.str (tx [13]) t2].toArray 0) :: news))
    (h0 : 0 ≤ k) (hk : k < 3) (q : ∀ e t, (e = [10] ∨ e = [13, 10] ∨ e = [13]) → Q (.str (tx e) t) (Sh s h tk)) (hs : subscripted slice false (.ref l) (.int k u) = operate [.ref l, .int k u] (getItem (.ref l) (.int k u))) :
    wpAny (model prog w) A (subscriptTail value slice (.ref l) (.int k u)) Q E (Sh s h tk) := by
  obtain ⟨e, t, hp, h2⟩ := end_pick t0 t1 t2 k.toNat (by omega)
  exact lItem ⟨_, S.get (.head _), rfl, 0, rfl⟩ h0 (by omega) hp (q e t h2) hs
end
theorem ints_take {vs : List Value} {ns : List Int} (h : IntsAre vs ns) : ∀ k, IntsAre (vs.take k) (ns.take k) := by
  induction h with
  | nil => intro k; simp; exact .nil
  | cons n t _ ih => intro k; cases k with | zero => exact .nil | succ k => exact .cons _ _ (ih k)
theorem amLe {A : Around} {m n : Nat} (a : Am A n) (h : m ≤ n) : Am A m := ⟨a.hh, by have := a.hd; omega, by have := a.hu; omega, a.fr⟩
theorem oct_round (fs : List Nat) : ((octF fs).map (·.toUInt8)).toArray.toList.map (·.toNat) = octF fs := by
  have h : ∀ n ∈ octF fs, n < 256 := by
    intro n hn
    obtain ⟨k, _, rfl⟩ := List.mem_map.mp hn
    omega
  rw [List.map_map]
  conv => rhs; rw [← List.map_id (octF fs)]
  apply List.map_congr_left
  intro n hn
  have := h n hn
  simp; omega
theorem octF_len (fs : List Nat) : (octF fs).length = fs.length * 6 / 8 := by simp [octF]
theorem jn_nil : ∀ ls : List (List Nat), jn [] ls = ls.flatten
  | [] => rfl
  | [x] => by simp [jn]
  | x :: y :: r => by rw [jn, jn_nil (y :: r)]; simp
theorem chars_txts {vs : List Value} {cs : List Nat} (h : Chars vs cs) : StrsAre vs ((cs.map fun c => [c]).map tx) := by rw [List.map_map]; exact h
theorem ones_flat (cs : List Nat) : (cs.map fun c => [c]).flatten = cs := by induction cs <;> simp_all
theorem ones_sum (cs : List Nat) : ((cs.map fun c => [c]).map (·.length)).sum = cs.length := by induction cs <;> simp_all; omega
theorem chars_nats {vs ys : List Value} {cs : List Nat} (h : Chars vs cs) (hP : Paired (fun v y => ∃ (c : Nat) (t t' : Tok), v = Value.str (tx [c]) t ∧ y = Value.int (c : Nat) t') vs ys) : NatsAre ys cs := by
  induction cs generalizing vs ys with
  | nil => cases h; cases hP; exact .nil
  | cons c cs ih =>
    cases h with
    | cons _ t h =>
      cases hP with
      | cons hF hP =>
        obtain ⟨a, t1, t2, e1, rfl⟩ := hF
        injection e1 with ha _
        have := tx_inj.mp ha
        cases this
        exact .cons _ _ (ih h hP)
theorem flat_le {α : Type} {f : α → List (List Nat)} {N : Nat} (ls : List α) (h : ∀ l ∈ ls, (f l).length ≤ N) : (ls.flatMap f).length ≤ ls.length * N := by
  induction ls with
  | nil => simp
  | cons l ls ih =>
    have h1 := h l (.head _)
    have h2 := ih fun x hx => h x (.tail _ hx)
    rw [List.flatMap_cons, List.length_append, List.length_cons, Nat.add_mul]; omega
theorem u8_round {ss : List Nat} (h : ∀ c ∈ ss, c < 256) : (ss.map (·.toUInt8)).toArray.toList.map (·.toNat) = ss := by
  rw [List.map_map]
  conv => rhs; rw [← List.map_id ss]
  apply List.map_congr_left
  intro n hn
  have := h n hn
  simp; omega
theorem lines_bound (ss : List Nat) : (prt [] false ss).length ≤ ss.length + 1 ∧ ∀ l ∈ prt [] false ss, l.length ≤ ss.length := by
  have := lnFold_ne ss
  rw [← lnFold_prt]
  exact ⟨by rw [List.length_reverse]; exact this.2.1, fun l hl => this.2.2 l (List.mem_reverse.mp hl)⟩
theorem rwEnd_fst (R : Nat) (line : List Nat) (st : List (List Nat) × List Nat) : (rwEnd R line st).1.length ≤ st.1.length + 1 := by
  have hm : (rwMerge R st).1.length ≤ st.1.length + 1 := by
    unfold rwMerge
    split
    · split
      · simp; omega
      · omega
    · omega
  unfold rwEnd
  split
  · split
    · split
      · exact Nat.le_succ _
      · simp
    · exact hm
  · exact hm
theorem rowsOf_len2 {R : Nat} (hR : 4 ≤ R) (cs : List Nat) : (rowsOf R cs).length ≤ cs.length + 2 := by
  have h1 := (rwFold_len hR cs).1
  have h2 := rwEnd_fst R cs (rwFold R cs)
  unfold rowsOf
  simp; omega
theorem amC : Am callerA 6 := ⟨rfl, by decide, by decide, ⟨[], rfl⟩⟩
set_option maxRecDepth 100000
set_option maxHeartbeats 8000000
theorem fin : PySem.Challenge.rw_nb0180_01.Holds :=
  hd (by
    k_fill
    intro w s₀ s₁ mg mb G Y fa o pm cd doc dV kV ho hd hcd hD hmg hg args vals as hpre hlay hrd hwl hlo
    have KX := kIn_of Y
    have X := (Ground.X G).1
    have V := (Ground.X G).2
    refine Ground.open G ?_
    intro T B D TE TW
    try (refine guard_noD D (by decide +kernel) ?_; clear D)
    obtain ⟨_, _, M⟩ := bmod_of_top T
    have TA := at_of_top T
    try (obtain ⟨_, _, he, B0⟩ := based_of_top T rfl hmg ho hd; have he' : cd = _ := he; subst he'; clear he)
    clear hmg
    wrow_args hpre hlay hrd hwl hlo
    first | refine callC_kw (enter_call ?_) | refine enter_call ?_ | refine callC_kw (enter_callW ?_) | refine enter_callW ?_
    w_top on
    try refine codeAny_mono ?_ (fun _ _ g => GoodW.toG g)
    have K0 := below_caller (Top.heap T)
    w_call any ho hd hcd hD T F
    clear hd TA
    k_drop
    rename Top _ _ _ _ _ _ => TT
    rename Fr _ _ _ _ => F0
    rename IntsAre _ _ => hI
    rename Heap.IsList _ _ _ => hL
    have GD : Gd w s₁.heap := ⟨KX, ⟨_, _, _, _, topRead_of TT⟩, TT.seer rfl⟩
    have am := amC
    have S0 := St.nil F0
    clear hD hcd ho G Y
    refine wpAny_mono (Q := Fin (fun v s' => v = .bool true ∧ ∃ h' tk', s' = Sh s₁ h' tk' ∧ ∀ b o, s₁.heap.get? b = some o → h'.get? b = some o)) (E := NoE) ?_ ?_ (fun _ _ e => e.elim)
    · unfold envOf
      dsimp only
      generalize s₁.toks + _ = tk0
      show wpAny _ _ _ _ _ (Sh s₁ _ tk0)
      repeat walk_at "m:g"
      rename List Int => ns
      rename ¬ ((63 : Nat) : Int) < _ => hlen63
      rename List Value => vs
      have hvl : vs.length = ns.length := hI.length
      refine slL S0 (stays_list S0.F.keep hL) .none (.int _ _) (by omega) (fun lp h₂ S₂ => ?_) (by intro _; rfl) (by intro _; rfl)
      have hcut : cut vs none (some 14) = vs.take 14 := by
        unfold cut
        simp only [Option.elim, List.drop_zero, Nat.sub_zero]
        have := clipAt_cast vs.length 14
        by_cases hh : 14 ≤ vs.length
        · rw [show clipAt vs.length 14 = 14 by omega]
        · rw [show clipAt vs.length 14 = vs.length by omega, List.take_of_length_le (Nat.le_refl _), List.take_of_length_le (by omega)]
      rw [hcut] at S₂
      have hI14 : IntsAre (vs.take 14) (ns.take 14) := ints_take hI 14
      have hn14 : (ns.take 14).length ≤ 14 := by rw [List.length_take]; omega
      generalize vs.take 14 = pv at *
      generalize ns.take 14 = pn at *
      repeat walk_at "m:g"
      rename_i h₃ S₃
      refine lSum am.hh ⟨_, S₃.get (.head _), rfl, 0, rfl⟩ hI14 (fun h₄ tk₄ t₄ st => ?_)
      replace S₃ := S₃.stay st
      generalize pn.sum = sm
      repeat walk_at "m:g"
      rename_i S₅
      refine pick2 S₅ (by omega) (by omega) (fun x y t₂ htwo => ?_) (by rfl)
      replace S₅ := S₅.drop
      repeat walk_at "m:g"
      rename_i S₆
      refine pick3 S₆ (by omega) (by omega) (fun e t₃ he => ?_) (by rfl)
      replace S₆ := S₆.drop
      obtain ⟨R, hRR⟩ : ∃ R : Nat, 4 + sm / 8 % 8 = (R : Int) := ⟨(4 + sm / 8 % 8).toNat, by omega⟩
      have hR4 : 4 ≤ R := by omega
      have hR11 : R ≤ 11 := by omega
      rw [hRR] at S₆
      have hel : e.length ≤ 2 := by rcases he with rfl | rfl | rfl <;> decide
      have hene : e ≠ [] := by rcases he with rfl | rfl | rfl <;> simp
      clear S₅ S₃ S₂ S0
      repeat walk_at "m:g"
      rename_i S₇
      refine figures_spec (GD.keeps S₇.F.keep) (amLe am.deeper (by decide)) ⟨_, S₇.get (.head _), rfl, 0, rfl⟩ hI14 hn14 (fun h₈ tk₈ lf uf kf st hgf hff huf => ?_)
      replace S₇ := S₇.one st hgf hff
      rw [figN_cast] at huf
      have hfs := figN_lt pn
      have hfl := figN_len pn
      generalize figN pn = fs at *
      have hfs2 : 2 ≤ fs.length := by omega
      have hfs16 : fs.length ≤ 16 := by omega
      have hfne : fs ≠ [] := by intro hh; rw [hh] at hfs2; simp at hfs2
      repeat walk_at "m:g"
      rename_i S₈
      refine octets_spec (GD.keeps S₈.F.keep) (amLe am.deeper (by decide)) ⟨_, S₈.get (.head _), rfl, _, rfl⟩ huf hfs16 (fun h₉ tk₉ t₉ st => ?_)
      replace S₈ := S₈.stay st
      repeat walk_at "m:g"
      refine b64_spec (GD.keeps S₈.F.keep) (amLe am.deeper (by decide)) (by simp [octF_len]; omega) (fun h₁₀ tk₁₀ t₁₀ st => ?_)
      replace S₈ := S₈.stay st
      rw [oct_round, written_eq x y hfs hfne]
      have hok := signs_ok htwo hfs hfne
      have hsb := sgF_bound (alp x.toNat y.toNat) hfs2 hfs16
      have hxy : x.toNat < 256 ∧ y.toNat < 256 := ⟨x.toNat_lt, y.toNat_lt⟩
      repeat walk_at "m:g"
      rename_i S₉
      refine compLC (cl := []) (fun v y' => ∃ (f : Nat) (t t' : Tok), v = Value.int (f : Nat) t ∧ y' = Value.str (tx [(fun n => n) f]) t') (by rfl) ?_ (by decide) rfl (by decide) rfl (by intro _; rfl)
      repeat walk_at "m:g"
      refine compBytesC am.hh S₉ (by simp) ?_ ?_
      · intro C c u s₃ h' tk' mC hc hN hm hk
        repeat walk_at "m:g"
        refine nmCB (GD.keeps fun b o e => hk b o (S₉.F.keep b o e)) (by boot_fast) (by rfl) (by decide) ?_ rfl (by rfl) (by decide)
        repeat walk_at "m:g"
        refine nmCC hN hm ?_ rfl (by rfl) (by decide)
        repeat walk_at "m:g"
        refine sChr c.toNat_lt ?_
        exact EltEnd.same ⟨c.toNat, _, _, rfl, rfl⟩
      · intro d h₁₁ tk₁₁ ys vs' k₁₁ S₁₁ hvs hP
        have hch : Chars ys [x.toNat, y.toNat] := NatsAre.paired (g := fun n => n) hvs hP
        clear S₉ S₈
        repeat walk_at "m:g"
        refine sJoin ⟨_, S₁₁.get (.head _), rfl, k₁₁, rfl⟩ (chars_txts hch) (by rw [ones_sum]; simp) (fun t₁₂ tk₁₂ => ?_)
        rw [jn_nil, ones_flat]
        replace S₁₁ := S₁₁.drop
        repeat walk_at "m:g"
        refine signs_spec (GD.keeps S₁₁.F.keep) (amLe am.deeper (by decide)) ⟨_, S₁₁.get (.head _), rfl, _, rfl⟩ huf hfs hfne hfs16 (fun h₁₃ tk₁₃ lg ug kg st hgg hfg hcg => ?_)
        replace S₁₁ := S₁₁.one st hgg hfg
        generalize sgF (alp x.toNat y.toNat) fs = ss at *
        have hs256 : ∀ c ∈ ss, c < 256 := fun c hc => (hok c hc).2
        have hugl := hcg.length
        obtain ⟨hss18, hssne⟩ := hsb
        repeat walk_at "m:g"
        rename_i S₁₄
        refine compLC (cl := []) (fun v y' => ∃ (c : Nat) (t t' : Tok), v = Value.str (tx [c]) t ∧ y' = Value.int (c : Nat) t') (by rfl) ?_ (by decide) rfl (by decide) rfl (by intro _; rfl)
        repeat walk_at "m:g"
        refine compListC am.hh S₁₄ ⟨_, S₁₄.get (.head _), rfl, _, rfl⟩ (by omega) ?_ ?_
        · intro C v s₃ h' tk' mC hv hN hm hk
          obtain ⟨c1, tc, rfl, hc1⟩ := Txts.mem (chars_txts hcg) hv
          obtain ⟨c, _, rfl⟩ := List.mem_map.mp hc1
          repeat walk_at "m:g"
          refine nmCB (GD.keeps fun b o e => hk b o (S₁₄.F.keep b o e)) (by boot_fast) (by rfl) (by decide) ?_ rfl (by rfl) (by decide)
          repeat walk_at "m:g"
          refine nmCC hN hm ?_ rfl (by rfl) (by decide)
          repeat walk_at "m:g"
          exact EltEnd.same ⟨c, _, _, rfl, rfl⟩
        · intro d₁₅ h₁₅ tk₁₅ ys₁₅ k₁₅ S₁₅ hP₁₅
          have hY := chars_nats hcg hP₁₅
          have hyl := hY.length
          clear S₁₄ S₁₁
          repeat walk_at "m:g"
          refine call_bytes_ints (s := Sh s₁ h₁₅ tk₁₅) ⟨_, S₁₅.get (.head _), rfl, k₁₅, rfl⟩ hY ?_ (by show _ ≤ 16777216; omega) am.hh (fun h₁₆ t₁₆ tk₁₆ st => ?_)
          · intro n hn
            obtain ⟨m, hm, rfl⟩ := List.mem_map.mp hn
            have := hs256 m hm
            omega
          have ebytes : byteArr (ss.map fun n : Nat => (n : Int)) = (ss.map (·.toUInt8)).toArray := by simp [byteArr]
          rw [ebytes]
          have S₁₆ := (S₁₅.drop).stay st
          show wpAny _ _ _ _ _ (Sh s₁ h₁₆ tk₁₆)
          refine bNe ?_
          rw [decide_eq_false (by simp)]
          clear S₁₅
          repeat walk_at "m:g"
          refine lines_spec (GD.keeps S₁₆.F.keep) (amLe am.deeper (by decide)) ⟨_, S₁₆.get (.head _), rfl, _, rfl⟩ hcg (by omega) (fun h₁₇ tk₁₇ lr kr ob st hmem hnd hob => ?_)
          have S₁₇ := (S₁₆.grow st hmem hnd).sub (List.sublist_append_left _ _)
          have hobn : (ob.map (·.1)).Nodup := (List.nodup_cons.mp hnd).2
          have hRef := RefIs.of (OB := ob) hob (fun p hp => hp)
          rw [lnFold_prt] at hRef
          obtain ⟨hLl, hLm⟩ := lines_bound ss
          have hLc : ∀ l ∈ prt [] false ss, ∀ c ∈ l, c < 256 := prt_sub ss [] false (fun c => c < 256) (by simp) hs256
          clear S₁₆ hob
          generalize (ob.map fun p => Value.ref p.1).reverse = rv at *
          have hrvl := hRef.len
          generalize hLS : prt [] false ss = LS at *
          have hrows : ∀ l ∈ LS, (rowsOf R l).length ≤ 20 ∧ ∀ z ∈ rowsOf R l, z.length ≤ 31 := fun l hl => ⟨by have := rowsOf_len2 hR4 l; have := hLm l hl; omega, (rowsOf_len hR4 hR11 (by have := hLm l hl; omega)).2⟩
          repeat walk_at "m:g"
          rename_i lR h₁₈ S₁₈ h₁₉ S₁₉
          refine seq_any (For_invV s₁.heap rfl rfl ?_ (hE := PassesOwn.never))
          repeat walk_at "m:g"
          refine iter_list (fun i m nw => (∃ t, m (Str.ofString "written") = some (.bytes (ss.map (·.toUInt8)).toArray t)) ∧ (∃ t, m (Str.ofString "room") = some (.int (R : Nat) t)) ∧ (∃ t, m (Str.ofString "end") = some (.str (tx e) t)) ∧ m (Str.ofString "lines") = some (.ref lr) ∧ m (Str.ofString "rows") = some (.ref lR) ∧
            ∃ us k, nw = (lR, listOf us.toArray k) :: (lr, listOf rv.toArray kr) :: ob ∧ Txts us ((LS.take i).flatMap (rowsOf R))) am.hh ⟨_, S₁₉.get (.tail _ (.head _)), rfl, _, rfl⟩ S₁₉ ⟨⟨_, by walk_at "m:lk"⟩, ⟨_, by walk_at "m:lk"⟩, ⟨_, by walk_at "m:lk"⟩, by walk_at "m:lk", by walk_at "m:lk", [], 0, rfl, .nil⟩
            (.inr ⟨_, fun i m n hj => by obtain ⟨_, _, _, _, _, us, k, rfl, _⟩ := hj; exact .tail _ (.head _)⟩) ?_ ?_
          · rintro i vv m₁ news₁ h₂₀ tk₂₀ it hv ⟨⟨tw, hwr⟩, ⟨tro, hro⟩, ⟨ten, hen⟩, hli, hrw, us, k, rfl, hus⟩ S
            obtain ⟨la, uc, ka, cs, rfl, hin, hch, hcs⟩ := hRef.item hv
            have hcm := List.mem_of_getElem? hcs
            have hstep : (LS.take (i + 1)).flatMap (rowsOf R) = (LS.take i).flatMap (rowsOf R) ++ rowsOf R cs := by rw [List.take_add_one, hcs]; simp
            have hul : us.length ≤ 100000 := by
              rw [hus.length]
              have h1 := flat_le (f := rowsOf R) (N := 20) (LS.take i) (fun l hl => (hrows l (List.mem_of_mem_take hl)).1)
              have h2 : (LS.take i).length ≤ 19 := by rw [List.length_take]; omega
              have h3 : (LS.take i).length * 20 ≤ 19 * 20 := Nat.mul_le_mul_right _ h2
              omega
            repeat walk_at "m:g"
            refine gmExtend S (.tail _ (.head _)) ?_
            repeat walk_at "m:g"
            refine rows_spec (GD.keeps S.F.keep) (amLe am.deeper (by decide)) ⟨_, S.get (.tail _ (.tail _ (.tail _ hin))), rfl, _, rfl⟩ hch (hLc cs hcm) (by have := hLm cs hcm; omega) hR4 hR11 (fun h₂₁ tk₂₁ lrr ur kr2 st hgr hfr htr => ?_)
            replace S := S.stay st
            have hurl := htr.length
            have hr1 := (hrows cs hcm).1
            repeat walk_at "m:g"
            refine ext1 S.swap hgr (by omega) (fun h₂₂ n₂₂ S₂₂ => ?_)
            repeat walk_at "m:g"
            refine TurnEnd.next S₂₂.swap ⟨⟨_, by walk_at "m:lk"⟩, ⟨_, by walk_at "m:lk"⟩, ⟨_, by walk_at "m:lk"⟩, by walk_at "m:lk", by walk_at "m:lk", _, _, rfl, ?_⟩
            rw [hstep]
            show StrsAre _ (List.map _ (_ ++ _))
            rw [List.map_append]
            exact StrsAre.append' hus htr
          · rintro m₁ news₁ h₂₀ tk₂₀ ⟨⟨tw, hwr⟩, ⟨tro, hro⟩, ⟨ten, hen⟩, hli, hrw, us, k, rfl, hus⟩ S
            rw [hrvl, List.take_length] at hus
            have hul := hus.length
            have hrl : (LS.flatMap (rowsOf R)).length ≤ 380 := by
              have h1 := flat_le (f := rowsOf R) (N := 20) LS (fun l hl => (hrows l hl).1)
              have h3 : LS.length * 20 ≤ 19 * 20 := Nat.mul_le_mul_right _ (by omega)
              omega
            have hrm : ∀ z ∈ LS.flatMap (rowsOf R), z.length ≤ 31 := by
              intro z hz
              obtain ⟨l, hl, hz⟩ := List.mem_flatMap.mp hz
              exact (hrows l hl).2 z hz
            have hsum : ((LS.flatMap (rowsOf R)).map (·.length)).sum + (LS.flatMap (rowsOf R)).length * e.length ≤ 16777216 ∧ (jn e (LS.flatMap (rowsOf R))).length ≤ 20000 := by
              have h1 := sum_le_mul hrm
              have h2 := jn_len e (LS.flatMap (rowsOf R))
              have h3 : (LS.flatMap (rowsOf R)).length * 31 ≤ 380 * 31 := Nat.mul_le_mul_right _ hrl
              have h4 : (LS.flatMap (rowsOf R)).length * e.length ≤ 380 * 2 := Nat.mul_le_mul hrl hel
              exact ⟨by omega, by omega⟩
            have hlsum : (LS.map (·.length)).sum + LS.length * e.length ≤ 400 := by
              have h1 := sum_le_mul (ls := LS) (N := 18) (fun l hl => by have := hLm l hl; omega)
              have h2 : LS.length * 18 ≤ 19 * 18 := Nat.mul_le_mul_right _ (by omega)
              have h3 : LS.length * e.length ≤ 19 * 2 := Nat.mul_le_mul (by omega) hel
              omega
            repeat walk_at "m:g"
            refine compLC (cl := []) (fun v y' => ∃ (f : Nat) (t t' : Tok), v = Value.int (f : Nat) t ∧ y' = Value.str (tx [(fun n => n) f]) t') (by rfl) ?_ (by decide) rfl (by decide) rfl (by intro _; rfl)
            repeat walk_at "m:g"
            refine compBytesC am.hh S (by simp; omega) ?_ ?_
            · intro C c u s₃ h' tk' mC hc hN hm hk
              repeat walk_at "m:g"
              refine nmCB (GD.keeps fun b o e => hk b o (S.F.keep b o e)) (by boot_fast) (by rfl) (by decide) ?_ rfl (by rfl) (by decide)
              repeat walk_at "m:g"
              refine nmCC hN hm ?_ rfl (by rfl) (by decide)
              repeat walk_at "m:g"
              refine sChr c.toNat_lt ?_
              exact EltEnd.same ⟨c.toNat, _, _, rfl, rfl⟩
            · intro d h₂₁ tk₂₁ ys₂₁ vs₂₁ k₂₁ S₂₁ hvs₂₁ hP₂₁
              rw [u8_round hs256] at hvs₂₁
              have hch := NatsAre.paired (g := fun n => n) hvs₂₁ hP₂₁
              rw [List.map_id'] at hch
              clear S
              repeat walk_at "m:g"
              refine sJoin ⟨_, S₂₁.get (.head _), rfl, k₂₁, rfl⟩ (chars_txts hch) (by rw [ones_sum]; simp; omega) (fun t₂₂ tk₂₂ => ?_)
              rw [jn_nil, ones_flat]
              replace S₂₁ := S₂₁.drop
              repeat walk_at "m:g"
              refine body_spec (GD.keeps S₂₁.F.keep) (amLe am.deeper (by decide)) hs256 hssne (by omega) hR4 hR11 hel (fun h₂₃ tk₂₃ t₂₃ st => ?_)
              rw [body_rows hR4 hssne, hLS]
              replace S₂₁ := S₂₁.stay st
              repeat walk_at "m:g"
              rename_i h₂₄ S₂₄
              refine sJoin ⟨_, S₂₄.get (.head _), rfl, _, rfl⟩ hus hsum.1 (fun t₂₅ tk₂₅ => ?_)
              repeat walk_at "m:g"
              refine iteD (fun hh => absurd rfl hh) (fun _ => ?_)
              obtain ⟨D, q1, q2, q3, q4, q5, q6, q7⟩ := decode_law hR4 hR11 he hssne (fun c hc => (hok c hc).1)
              rw [hLS] at q1 q2 q3 q5 q6 q7
              clear S₂₁
              repeat walk_at "m:g"
              refine decode_spec (GD.keeps S₂₄.F.keep) (amLe am.deeper (by decide)) q1 (by omega) q2 q3 (fun d hd => ⟨(q4 d hd).1, (q4 d hd).2, by have := hrm _ (q5 d hd); omega⟩) hene hel ?_ q7 (fun h₂₆ tk₂₆ t₂₆ st => ?_)
              · have := jn_len e LS
                omega
              replace S₂₄ := S₂₄.stay st
              repeat walk_at "m:g"
              refine compLC (cl := []) (LineF ob) (by rfl) ?_ (by decide) rfl (by decide) rfl (by intro _; rfl)
              repeat walk_at "m:g"
              refine compListC am.hh S₂₄ ⟨_, S₂₄.get (.tail _ (.head _)), rfl, _, rfl⟩ (by omega) ?_ ?_
              · intro C v s₃ h' tk' mC hv hN hm hk
                obtain ⟨la, uc, ka, cs, rfl, hin, hcc, hcm⟩ := hRef.mem hv
                have hcl := hLm cs hcm
                repeat walk_at "m:g"
                refine nmCC hN hm ?_ rfl (by rfl) (by decide)
                repeat walk_at "m:g"
                refine sJoin ⟨_, hk _ _ (S₂₄.get (.tail _ (.tail _ hin))), rfl, _, rfl⟩ (chars_txts hcc) (by rw [ones_sum]; simp; omega) (fun t' tk' => ?_)
                rw [jn_nil, ones_flat]
                exact EltEnd.same ⟨la, uc, ka, cs, _, rfl, hin, hcc, rfl⟩
              · intro d₂₇ h₂₇ tk₂₇ ys₂₇ k₂₇ S₂₇ hP₂₇
                have hT := hRef.paired hobn hP₂₇
                repeat walk_at "m:g"
                refine sJoin ⟨_, S₂₇.get (.head _), rfl, k₂₇, rfl⟩ hT (by omega) (fun t₂₈ tk₂₈ => ?_)
                repeat walk_at "m:g"
                exact ⟨by rw [decide_eq_true rfl], _, _, rfl, S₂₇.F.keep⟩
    · intro f s' hf
      obtain ⟨hv, h', tk', rfl, hk⟩ := hf
      refine ⟨.inl ⟨.bool true, .bool true, [], ?_, ?_, .bool true, ?_, ?_⟩, hk, rfl, hg⟩
      · rw [← hv]; rfl
      · intro cls; rfl
      · exact postW_of (X := true) (by rfl) (by first | kernel_rfl | simp [WTm.value]) rfl
      · intro _; exact ⟨List.nodup_nil, by simp⟩)

end Mine
set_option maxRecDepth 100000 in
theorem PySem.Challenge.cw_nb0180_01_holds : PySem.Challenge.rw_nb0180_01.Holds :=
  Mine.fin
