import PyProof.Rows.All
import Wide.All
import OpenK.AllK
import Wide.FinOn
import PySem.Challenge.RW_qh0096_01
open PySem PySem.W PyProof.Rows PySem.Calls
set_option Elab.async false
set_option maxRecDepth 100000
set_option maxHeartbeats 8000000
set_option pp.deepTerms false
set_option linter.all false
set_option pp.deepTerms.threshold 6
namespace Mine
section
local macro_rules | `(tactic| refine $_) => `(tactic| assumption)
/-- no proof of the row (its premise is its claim): of the library's head line only the two definitions are wanted here that it
writes down, the top's written part (hd.heap_1) and its view (hd.view_1); so its last step, a refine, is answered by the premise -/
theorem hd (h : PySem.Challenge.rw_qh0096_01.row.Holds) : PySem.Challenge.rw_qh0096_01.row.Holds := by
  km_head
end
noncomputable abbrev pp : Program := PySem.Challenge.rw_qh0096_01.row.prog
noncomputable def nthO : Frag → Nat → Obj
  | [], _ => default
  | x :: _, 0 => x.2
  | _ :: r, i + 1 => nthO r i
/-- the top's objects: the i-th of the written part; what a def's function object is made from; the rest by hand -/
noncomputable def oK (P : Params) (i : Nat) : Obj := nthO (hd.heap_1 P) i
noncomputable def oT (P : Params) (i : Nat) : Obj := match oK P i with
  | ⟨_, _, .func fd, _⟩ => { cls := .none, data := .func { name := fd.name, qualname := fd.qualname, params := fd.params, body := fd.body, scope := fd.scope, globals := 0, closure := [], defaults := .none, kwdefaults := .none } }
  | o => o
noncomputable def oF : Obj := { cls := .none, data := .fields (Array.mk []) }
noncomputable def oS : Obj := { cls := .type "tuple", data := .seq (Array.mk []) }
noncomputable def nameIs (v : Value) : List DictEntry → List DictEntry
  | e :: r => { e with val := v } :: r
  | [] => []
/-- the globals after k names, __name__ being v -/
noncomputable def o3 (P : Params) (k : Nat) (v : Value) : Obj := match oK P 1 with
  | ⟨c, d, .dict es _, s⟩ => ⟨c, d, .dict (Array.mk (nameIs v (es.toList.take k))) k, s⟩
  | o => o
noncomputable def codesAt : List (Nat × Nat) → List Value
  | (l, c) :: r => .int l 0 :: .int 0 0 :: .ref c :: codesAt r
  | [] => []
noncomputable def codeList : List (Nat × Nat) := [(1, 20), (5, 27), (27, 67), (46, 75), (59, 82), (61, 95), (72, 102), (79, 109), (85, 116), (97, 124), (151, 132), (174, 140), (180, 148), (187, 155), (189, 162), (193, 169), (195, 176), (200, 183), (211, 190), (220, 197), (226, 202), (240, 207)]
/-- the code objects of the first k defs, each with its line -/
noncomputable def o12 (k : Nat) : Obj := { cls := .none, data := .fields (Array.mk (codesAt (codeList.take k))) }
noncomputable def o13 : Obj := { cls := .type "code", data := .fields (Array.mk [.str (Str.ofString "<module>") 182, .str (Str.ofString "<module>") 183, .str (Str.ofString "/claim/cut.py") 184, .int 1 0, .int 0 0, .int 0 0, .int 0 0, .int 0 0, .ref 11, .bool false, .int 181 0, .ref 12, .none, .none, .none, .none, .int 185 0, .int 1 0, .str (Str.ofString "/claim/cut.py") 186]) }
noncomputable def o14 : Obj := { cls := .type "frame", slots := Array.mk [some (.ref 13), some (.ref 3), some (.ref 3), none, some (.str (Str.ofString "__main__") 164), none, some (.ref 0)] }
noncomputable def o78 : Obj := { cls := .type "builtin_function_or_method", data := .fields (Array.mk [.builtin "type.__prepare__", .type "type"]) }
noncomputable def o79 (P : Params) : Obj := { cls := .type "dict", data := .dict (Array.mk [
  { hash := PyData.keyHash P (Str.ofString "__module__"), key := .str (Str.ofString "__module__") 298, val := .str (Str.ofString "binascii") 289 },
  { hash := PyData.keyHash P (Str.ofString "__qualname__"), key := .str (Str.ofString "__qualname__") 300, val := .str (Str.ofString "Error") 299 },
  { hash := PyData.keyHash P (Str.ofString "__firstlineno__"), key := .str (Str.ofString "__firstlineno__") 302, val := .int 59 301 },
  { hash := PyData.keyHash P (Str.ofString "__static_attributes__"), key := .str (Str.ofString "__static_attributes__") 303, val := .ref 84 }]) 4 }
noncomputable def o82 : Obj := { cls := .type "code", data := .fields (Array.mk [.str (Str.ofString "Error") 293, .str (Str.ofString "Error") 294, .str (Str.ofString "/claim/cut.py") 295, .int 59 0, .int 0 0, .int 0 0, .int 0 0, .int 0 0, .ref 80, .bool false, .int 181 0, .ref 81, .none, .none, .none, .none, .int 296 0, .int 59 0, .str (Str.ofString "/claim/cut.py") 297]) }
noncomputable def o83 : Obj := { cls := .type "frame", slots := Array.mk [some (.ref 82), some (.ref 3), some (.ref 79), none, some (.str (Str.ofString "binascii") 289), none, some (.ref 0)] }
noncomputable def o88 : Obj := { cls := .type "super", data := .fields (Array.mk [.ref 86, .ref 86, .ref 86]) }
noncomputable def o89 : Obj := { cls := .type "builtin_function_or_method", data := .fields (Array.mk [.builtin "object.__init_subclass__", .ref 86]) }
noncomputable def tA (P : Params) : BT := .node (boot_o_0 P) (.node (boot_o_1 P) (.node (o3 P 9 (.str (Str.ofString "__main__") 164)) (.node (boot_o_7 P) .nil .nil) (.node (oS) .nil .nil)) (.node (boot_o_5 P) (.node (boot_o_9 P) .nil .nil) (.node (o13) .nil .nil))) (.node (boot_o_2 P) (.node (boot_o_4 P) (.node (boot_o_8 P) .nil .nil) (.node (o12 0) .nil .nil)) (.node (boot_o_6 P) (.node (boot_o_10 P) .nil .nil) (.node (o14) .nil .nil)))
noncomputable def hA (P : Params) : Heap := ⟨Array.mk [boot_o_0 P, boot_o_1 P, boot_o_2 P, o3 P 9 (.str (Str.ofString "__main__") 164), boot_o_4 P, boot_o_5 P, boot_o_6 P, boot_o_7 P, boot_o_8 P, boot_o_9 P, boot_o_10 P, oS, o12 0, o13, o14], (boot_heap P).life⟩
noncomputable def t1 (P : Params) : BT := .node (boot_o_0 P) (.node (boot_o_1 P) (.node (o3 P 30 (.str (Str.ofString "cpy313.stat") 194)) (.node (boot_o_7 P) (.node (oK P 2) .nil .nil) (.node (oF) .nil .nil)) (.node (oS) (.node (oT P 6) .nil .nil) (.node (oK P 10) .nil .nil))) (.node (boot_o_5 P) (.node (boot_o_9 P) (.node (oK P 3) .nil .nil) (.node (oK P 9) .nil .nil)) (.node (o13) (.node (oK P 6) .nil .nil) .nil))) (.node (boot_o_2 P) (.node (boot_o_4 P) (.node (boot_o_8 P) (.node (oF) .nil .nil) (.node (oK P 8) .nil .nil)) (.node (o12 2) (.node (oK P 5) .nil .nil) (.node (oK P 11) .nil .nil))) (.node (boot_o_6 P) (.node (boot_o_10 P) (.node (oK P 4) .nil .nil) (.node (oT P 11) .nil .nil)) (.node (o14) (.node (oK P 7) .nil .nil) .nil)))
noncomputable def t2 (P : Params) : BT := .node (boot_o_0 P) (.node (boot_o_1 P) (.node (o3 P 34 (.str (Str.ofString "binascii") 289)) (.node (boot_o_7 P) (.node (oK P 2) (.node (oK P 14) (.node (oF) .nil .nil) .nil) (.node (oK P 30) .nil .nil)) (.node (oF) (.node (oK P 22) (.node (oF) .nil .nil) .nil) (.node (oK P 38) .nil .nil))) (.node (oS) (.node (oT P 6) (.node (oK P 18) (.node (oK P 48) .nil .nil) .nil) (.node (oK P 34) .nil .nil)) (.node (oK P 10) (.node (oK P 26) (.node (oK P 54) .nil .nil) .nil) (.node (oK P 42) .nil .nil)))) (.node (boot_o_5 P) (.node (boot_o_9 P) (.node (oK P 3) (.node (oK P 16) (.node (oK P 47) .nil .nil) .nil) (.node (oK P 32) .nil .nil)) (.node (oK P 9) (.node (oK P 24) (.node (oK P 53) .nil .nil) .nil) (.node (oK P 40) .nil .nil))) (.node (o13) (.node (oK P 6) (.node (oK P 20) (.node (oK P 50) .nil .nil) .nil) (.node (oK P 36) .nil .nil)) (.node (oK P 12) (.node (oK P 28) .nil .nil) (.node (oK P 44) .nil .nil))))) (.node (boot_o_2 P) (.node (boot_o_4 P) (.node (boot_o_8 P) (.node (oF) (.node (oK P 15) (.node (oK P 46) .nil .nil) .nil) (.node (oK P 31) .nil .nil)) (.node (oK P 8) (.node (oK P 23) (.node (oK P 52) .nil .nil) .nil) (.node (oK P 39) .nil .nil))) (.node (o12 4) (.node (oK P 5) (.node (oK P 19) (.node (oK P 49) .nil .nil) .nil) (.node (oK P 35) .nil .nil)) (.node (oK P 11) (.node (oK P 27) (.node (oK P 55) .nil .nil) .nil) (.node (oK P 43) .nil .nil)))) (.node (boot_o_6 P) (.node (boot_o_10 P) (.node (oK P 4) (.node (oK P 17) (.node (oT P 49) .nil .nil) .nil) (.node (oK P 33) .nil .nil)) (.node (oT P 11) (.node (oK P 25) (.node (oT P 55) .nil .nil) .nil) (.node (oK P 41) .nil .nil))) (.node (o14) (.node (oK P 7) (.node (oK P 21) (.node (oK P 51) .nil .nil) .nil) (.node (oK P 37) .nil .nil)) (.node (oK P 13) (.node (oK P 29) .nil .nil) (.node (oK P 45) .nil .nil)))))
noncomputable def t3 (P : Params) : BT := .node (boot_o_0 P) (.node (boot_o_1 P) (.node (o3 P 39 (.str (Str.ofString "binascii") 289)) (.node (boot_o_7 P) (.node (oK P 2) (.node (oK P 14) (.node (oF) .nil .nil) (.node (oK P 64) .nil .nil)) (.node (oK P 30) (.node (o79 P) .nil .nil) .nil)) (.node (oF) (.node (oK P 22) (.node (oF) .nil .nil) (.node (oK P 70) .nil .nil)) (.node (oK P 38) (.node (oK P 60) .nil .nil) .nil))) (.node (oS) (.node (oT P 6) (.node (oK P 18) (.node (oK P 48) .nil .nil) (.node (oK P 67) .nil .nil)) (.node (oK P 34) (.node (o83) .nil .nil) .nil)) (.node (oK P 10) (.node (oK P 26) (.node (oK P 54) .nil .nil) (.node (oK P 73) .nil .nil)) (.node (oK P 42) (.node (oF) .nil .nil) .nil)))) (.node (boot_o_5 P) (.node (boot_o_9 P) (.node (oK P 3) (.node (oK P 16) (.node (oK P 47) .nil .nil) (.node (oK P 66) .nil .nil)) (.node (oK P 32) (.node (oF) .nil .nil) .nil)) (.node (oK P 9) (.node (oK P 24) (.node (oK P 53) .nil .nil) (.node (oF) .nil .nil)) (.node (oK P 40) (.node (o89) .nil .nil) .nil))) (.node (o13) (.node (oK P 6) (.node (oK P 20) (.node (oK P 50) .nil .nil) (.node (oT P 70) .nil .nil)) (.node (oK P 36) (.node (oK P 58) .nil .nil) .nil)) (.node (oK P 12) (.node (oK P 28) (.node (oK P 56) .nil .nil) (.node (oK P 74) .nil .nil)) (.node (oK P 44) (.node (oK P 63) .nil .nil) .nil))))) (.node (boot_o_2 P) (.node (boot_o_4 P) (.node (boot_o_8 P) (.node (oF) (.node (oK P 15) (.node (oK P 46) .nil .nil) (.node (oK P 65) .nil .nil)) (.node (oK P 31) (.node (oS) .nil .nil) .nil)) (.node (oK P 8) (.node (oK P 23) (.node (oK P 52) .nil .nil) (.node (oK P 71) .nil .nil)) (.node (oK P 39) (.node (o88) .nil .nil) .nil))) (.node (o12 8) (.node (oK P 5) (.node (oK P 19) (.node (oK P 49) .nil .nil) (.node (oK P 68) .nil .nil)) (.node (oK P 35) (.node (oK P 57) .nil .nil) .nil)) (.node (oK P 11) (.node (oK P 27) (.node (oK P 55) .nil .nil) (.node (oT P 75) .nil .nil)) (.node (oK P 43) (.node (oK P 62) .nil .nil) .nil)))) (.node (boot_o_6 P) (.node (boot_o_10 P) (.node (oK P 4) (.node (oK P 17) (.node (oT P 49) .nil .nil) (.node (oF) .nil .nil)) (.node (oK P 33) (.node (o82) .nil .nil) .nil)) (.node (oT P 11) (.node (oK P 25) (.node (oT P 55) .nil .nil) (.node (oK P 72) .nil .nil)) (.node (oK P 41) (.node (oK P 61) .nil .nil) .nil))) (.node (o14) (.node (oK P 7) (.node (oK P 21) (.node (oK P 51) .nil .nil) (.node (oK P 69) .nil .nil)) (.node (oK P 37) (.node (oK P 59) .nil .nil) .nil)) (.node (oK P 13) (.node (oK P 29) (.node (o78) .nil .nil) (.node (oK P 75) .nil .nil)) (.node (oK P 45) (.node (oT P 65) .nil .nil) .nil)))))
noncomputable def t4 (P : Params) : BT := .node (boot_o_0 P) (.node (boot_o_1 P) (.node (o3 P 42 (.str (Str.ofString "cpy313.base64") 372)) (.node (boot_o_7 P) (.node (oK P 2) (.node (oK P 14) (.node (oF) (.node (oK P 88) .nil .nil) .nil) (.node (oK P 64) .nil .nil)) (.node (oK P 30) (.node (o79 P) .nil .nil) (.node (oK P 76) .nil .nil))) (.node (oF) (.node (oK P 22) (.node (oF) .nil .nil) (.node (oK P 70) .nil .nil)) (.node (oK P 38) (.node (oK P 60) .nil .nil) (.node (oK P 82) .nil .nil)))) (.node (oS) (.node (oT P 6) (.node (oK P 18) (.node (oK P 48) (.node (oT P 92) .nil .nil) .nil) (.node (oK P 67) .nil .nil)) (.node (oK P 34) (.node (o83) .nil .nil) (.node (oT P 80) .nil .nil))) (.node (oK P 10) (.node (oK P 26) (.node (oK P 54) .nil .nil) (.node (oK P 73) .nil .nil)) (.node (oK P 42) (.node (oF) .nil .nil) (.node (oT P 86) .nil .nil))))) (.node (boot_o_5 P) (.node (boot_o_9 P) (.node (oK P 3) (.node (oK P 16) (.node (oK P 47) (.node (oK P 89) .nil .nil) .nil) (.node (oK P 66) .nil .nil)) (.node (oK P 32) (.node (oF) .nil .nil) (.node (oK P 77) .nil .nil))) (.node (oK P 9) (.node (oK P 24) (.node (oK P 53) .nil .nil) (.node (oF) .nil .nil)) (.node (oK P 40) (.node (o89) .nil .nil) (.node (oK P 83) .nil .nil)))) (.node (o13) (.node (oK P 6) (.node (oK P 20) (.node (oK P 50) (.node (oK P 92) .nil .nil) .nil) (.node (oT P 70) .nil .nil)) (.node (oK P 36) (.node (oK P 58) .nil .nil) (.node (oK P 80) .nil .nil))) (.node (oK P 12) (.node (oK P 28) (.node (oK P 56) .nil .nil) (.node (oK P 74) .nil .nil)) (.node (oK P 44) (.node (oK P 63) .nil .nil) (.node (oK P 86) .nil .nil)))))) (.node (boot_o_2 P) (.node (boot_o_4 P) (.node (boot_o_8 P) (.node (oF) (.node (oK P 15) (.node (oK P 46) (.node (oF) .nil .nil) .nil) (.node (oK P 65) .nil .nil)) (.node (oK P 31) (.node (oS) .nil .nil) (.node (oF) .nil .nil))) (.node (oK P 8) (.node (oK P 23) (.node (oK P 52) .nil .nil) (.node (oK P 71) .nil .nil)) (.node (oK P 39) (.node (o88) .nil .nil) (.node (oF) .nil .nil)))) (.node (o12 11) (.node (oK P 5) (.node (oK P 19) (.node (oK P 49) (.node (oK P 91) .nil .nil) .nil) (.node (oK P 68) .nil .nil)) (.node (oK P 35) (.node (oK P 57) .nil .nil) (.node (oK P 79) .nil .nil))) (.node (oK P 11) (.node (oK P 27) (.node (oK P 55) .nil .nil) (.node (oT P 75) .nil .nil)) (.node (oK P 43) (.node (oK P 62) .nil .nil) (.node (oK P 85) .nil .nil))))) (.node (boot_o_6 P) (.node (boot_o_10 P) (.node (oK P 4) (.node (oK P 17) (.node (oT P 49) (.node (oK P 90) .nil .nil) .nil) (.node (oF) .nil .nil)) (.node (oK P 33) (.node (o82) .nil .nil) (.node (oK P 78) .nil .nil))) (.node (oT P 11) (.node (oK P 25) (.node (oT P 55) .nil .nil) (.node (oK P 72) .nil .nil)) (.node (oK P 41) (.node (oK P 61) .nil .nil) (.node (oK P 84) .nil .nil)))) (.node (o14) (.node (oK P 7) (.node (oK P 21) (.node (oK P 51) .nil .nil) (.node (oK P 69) .nil .nil)) (.node (oK P 37) (.node (oK P 59) .nil .nil) (.node (oK P 81) .nil .nil))) (.node (oK P 13) (.node (oK P 29) (.node (o78) .nil .nil) (.node (oK P 75) .nil .nil)) (.node (oK P 45) (.node (oT P 65) .nil .nil) (.node (oK P 87) .nil .nil))))))
noncomputable def t5 (P : Params) : BT := .node (boot_o_0 P) (.node (boot_o_1 P) (.node (o3 P 48 (.str (Str.ofString "cpy313.base64") 372)) (.node (boot_o_7 P) (.node (oK P 2) (.node (oK P 14) (.node (oF) (.node (oK P 88) .nil .nil) .nil) (.node (oK P 64) (.node (oK P 111) .nil .nil) .nil)) (.node (oK P 30) (.node (o79 P) (.node (oK P 100) .nil .nil) .nil) (.node (oK P 76) .nil .nil))) (.node (oF) (.node (oK P 22) (.node (oF) (.node (oK P 94) .nil .nil) .nil) (.node (oK P 70) .nil .nil)) (.node (oK P 38) (.node (oK P 60) (.node (oF) .nil .nil) .nil) (.node (oK P 82) .nil .nil)))) (.node (oS) (.node (oT P 6) (.node (oK P 18) (.node (oK P 48) (.node (oT P 92) .nil .nil) .nil) (.node (oK P 67) (.node (oK P 114) .nil .nil) .nil)) (.node (oK P 34) (.node (o83) (.node (oT P 104) .nil .nil) .nil) (.node (oT P 80) .nil .nil))) (.node (oK P 10) (.node (oK P 26) (.node (oK P 54) (.node (oT P 98) .nil .nil) .nil) (.node (oK P 73) .nil .nil)) (.node (oK P 42) (.node (oF) (.node (oK P 108) .nil .nil) .nil) (.node (oT P 86) .nil .nil))))) (.node (boot_o_5 P) (.node (boot_o_9 P) (.node (oK P 3) (.node (oK P 16) (.node (oK P 47) (.node (oK P 89) .nil .nil) .nil) (.node (oK P 66) (.node (oT P 114) .nil .nil) .nil)) (.node (oK P 32) (.node (oF) (.node (oK P 101) .nil .nil) .nil) (.node (oK P 77) .nil .nil))) (.node (oK P 9) (.node (oK P 24) (.node (oK P 53) (.node (oK P 95) .nil .nil) .nil) (.node (oF) .nil .nil)) (.node (oK P 40) (.node (o89) (.node (oK P 107) .nil .nil) .nil) (.node (oK P 83) .nil .nil)))) (.node (o13) (.node (oK P 6) (.node (oK P 20) (.node (oK P 50) (.node (oK P 92) .nil .nil) .nil) (.node (oT P 70) .nil .nil)) (.node (oK P 36) (.node (oK P 58) (.node (oK P 104) .nil .nil) .nil) (.node (oK P 80) .nil .nil))) (.node (oK P 12) (.node (oK P 28) (.node (oK P 56) (.node (oK P 98) .nil .nil) .nil) (.node (oK P 74) .nil .nil)) (.node (oK P 44) (.node (oK P 63) (.node (oK P 110) .nil .nil) .nil) (.node (oK P 86) .nil .nil)))))) (.node (boot_o_2 P) (.node (boot_o_4 P) (.node (boot_o_8 P) (.node (oF) (.node (oK P 15) (.node (oK P 46) (.node (oF) .nil .nil) .nil) (.node (oK P 65) (.node (oK P 112) .nil .nil) .nil)) (.node (oK P 31) (.node (oS) (.node (oF) .nil .nil) .nil) (.node (oF) .nil .nil))) (.node (oK P 8) (.node (oK P 23) (.node (oK P 52) (.node (oF) .nil .nil) .nil) (.node (oK P 71) .nil .nil)) (.node (oK P 39) (.node (o88) (.node (oK P 106) .nil .nil) .nil) (.node (oF) .nil .nil)))) (.node (o12 15) (.node (oK P 5) (.node (oK P 19) (.node (oK P 49) (.node (oK P 91) .nil .nil) .nil) (.node (oK P 68) .nil .nil)) (.node (oK P 35) (.node (oK P 57) (.node (oK P 103) .nil .nil) .nil) (.node (oK P 79) .nil .nil))) (.node (oK P 11) (.node (oK P 27) (.node (oK P 55) (.node (oK P 97) .nil .nil) .nil) (.node (oT P 75) .nil .nil)) (.node (oK P 43) (.node (oK P 62) (.node (oK P 109) .nil .nil) .nil) (.node (oK P 85) .nil .nil))))) (.node (boot_o_6 P) (.node (boot_o_10 P) (.node (oK P 4) (.node (oK P 17) (.node (oT P 49) (.node (oK P 90) .nil .nil) .nil) (.node (oF) (.node (oK P 113) .nil .nil) .nil)) (.node (oK P 33) (.node (o82) (.node (oK P 102) .nil .nil) .nil) (.node (oK P 78) .nil .nil))) (.node (oT P 11) (.node (oK P 25) (.node (oT P 55) (.node (oK P 96) .nil .nil) .nil) (.node (oK P 72) .nil .nil)) (.node (oK P 41) (.node (oK P 61) (.node (oT P 109) .nil .nil) .nil) (.node (oK P 84) .nil .nil)))) (.node (o14) (.node (oK P 7) (.node (oK P 21) (.node (oK P 51) (.node (oK P 93) .nil .nil) .nil) (.node (oK P 69) .nil .nil)) (.node (oK P 37) (.node (oK P 59) (.node (oK P 105) .nil .nil) .nil) (.node (oK P 81) .nil .nil))) (.node (oK P 13) (.node (oK P 29) (.node (o78) (.node (oK P 99) .nil .nil) .nil) (.node (oK P 75) .nil .nil)) (.node (oK P 45) (.node (oT P 65) (.node (oF) .nil .nil) .nil) (.node (oK P 87) .nil .nil))))))
noncomputable def t6 (P : Params) : BT := .node (boot_o_0 P) (.node (boot_o_1 P) (.node (o3 P 51 (.str (Str.ofString "law_qh0096_01") 430)) (.node (boot_o_7 P) (.node (oK P 2) (.node (oK P 14) (.node (oF) (.node (oK P 88) .nil .nil) .nil) (.node (oK P 64) (.node (oK P 111) .nil .nil) .nil)) (.node (oK P 30) (.node (o79 P) (.node (oK P 100) .nil .nil) .nil) (.node (oK P 76) (.node (oT P 124) .nil .nil) .nil))) (.node (oF) (.node (oK P 22) (.node (oF) (.node (oK P 94) .nil .nil) .nil) (.node (oK P 70) (.node (oK P 117) .nil .nil) .nil)) (.node (oK P 38) (.node (oK P 60) (.node (oF) .nil .nil) .nil) (.node (oK P 82) (.node (oK P 128) .nil .nil) .nil)))) (.node (oS) (.node (oT P 6) (.node (oK P 18) (.node (oK P 48) (.node (oT P 92) .nil .nil) .nil) (.node (oK P 67) (.node (oK P 114) .nil .nil) .nil)) (.node (oK P 34) (.node (o83) (.node (oT P 104) .nil .nil) .nil) (.node (oT P 80) (.node (oF) .nil .nil) .nil))) (.node (oK P 10) (.node (oK P 26) (.node (oK P 54) (.node (oT P 98) .nil .nil) .nil) (.node (oK P 73) (.node (oK P 120) .nil .nil) .nil)) (.node (oK P 42) (.node (oF) (.node (oK P 108) .nil .nil) .nil) (.node (oT P 86) .nil .nil))))) (.node (boot_o_5 P) (.node (boot_o_9 P) (.node (oK P 3) (.node (oK P 16) (.node (oK P 47) (.node (oK P 89) .nil .nil) .nil) (.node (oK P 66) (.node (oT P 114) .nil .nil) .nil)) (.node (oK P 32) (.node (oF) (.node (oK P 101) .nil .nil) .nil) (.node (oK P 77) (.node (oK P 124) .nil .nil) .nil))) (.node (oK P 9) (.node (oK P 24) (.node (oK P 53) (.node (oK P 95) .nil .nil) .nil) (.node (oF) (.node (oK P 118) .nil .nil) .nil)) (.node (oK P 40) (.node (o89) (.node (oK P 107) .nil .nil) .nil) (.node (oK P 83) .nil .nil)))) (.node (o13) (.node (oK P 6) (.node (oK P 20) (.node (oK P 50) (.node (oK P 92) .nil .nil) .nil) (.node (oT P 70) (.node (oF) .nil .nil) .nil)) (.node (oK P 36) (.node (oK P 58) (.node (oK P 104) .nil .nil) .nil) (.node (oK P 80) (.node (oK P 127) .nil .nil) .nil))) (.node (oK P 12) (.node (oK P 28) (.node (oK P 56) (.node (oK P 98) .nil .nil) .nil) (.node (oK P 74) (.node (oK P 121) .nil .nil) .nil)) (.node (oK P 44) (.node (oK P 63) (.node (oK P 110) .nil .nil) .nil) (.node (oK P 86) .nil .nil)))))) (.node (boot_o_2 P) (.node (boot_o_4 P) (.node (boot_o_8 P) (.node (oF) (.node (oK P 15) (.node (oK P 46) (.node (oF) .nil .nil) .nil) (.node (oK P 65) (.node (oK P 112) .nil .nil) .nil)) (.node (oK P 31) (.node (oS) (.node (oF) .nil .nil) .nil) (.node (oF) (.node (oK P 123) .nil .nil) .nil))) (.node (oK P 8) (.node (oK P 23) (.node (oK P 52) (.node (oF) .nil .nil) .nil) (.node (oK P 71) (.node (oT P 119) .nil .nil) .nil)) (.node (oK P 39) (.node (o88) (.node (oK P 106) .nil .nil) .nil) (.node (oF) (.node (oK P 129) .nil .nil) .nil)))) (.node (o12 18) (.node (oK P 5) (.node (oK P 19) (.node (oK P 49) (.node (oK P 91) .nil .nil) .nil) (.node (oK P 68) (.node (oK P 115) .nil .nil) .nil)) (.node (oK P 35) (.node (oK P 57) (.node (oK P 103) .nil .nil) .nil) (.node (oK P 79) (.node (oK P 126) .nil .nil) .nil))) (.node (oK P 11) (.node (oK P 27) (.node (oK P 55) (.node (oK P 97) .nil .nil) .nil) (.node (oT P 75) (.node (oF) .nil .nil) .nil)) (.node (oK P 43) (.node (oK P 62) (.node (oK P 109) .nil .nil) .nil) (.node (oK P 85) .nil .nil))))) (.node (boot_o_6 P) (.node (boot_o_10 P) (.node (oK P 4) (.node (oK P 17) (.node (oT P 49) (.node (oK P 90) .nil .nil) .nil) (.node (oF) (.node (oK P 113) .nil .nil) .nil)) (.node (oK P 33) (.node (o82) (.node (oK P 102) .nil .nil) .nil) (.node (oK P 78) (.node (oK P 125) .nil .nil) .nil))) (.node (oT P 11) (.node (oK P 25) (.node (oT P 55) (.node (oK P 96) .nil .nil) .nil) (.node (oK P 72) (.node (oK P 119) .nil .nil) .nil)) (.node (oK P 41) (.node (oK P 61) (.node (oT P 109) .nil .nil) .nil) (.node (oK P 84) .nil .nil)))) (.node (o14) (.node (oK P 7) (.node (oK P 21) (.node (oK P 51) (.node (oK P 93) .nil .nil) .nil) (.node (oK P 69) (.node (oK P 116) .nil .nil) .nil)) (.node (oK P 37) (.node (oK P 59) (.node (oK P 105) .nil .nil) .nil) (.node (oK P 81) (.node (oT P 129) .nil .nil) .nil))) (.node (oK P 13) (.node (oK P 29) (.node (o78) (.node (oK P 99) .nil .nil) .nil) (.node (oK P 75) (.node (oK P 122) .nil .nil) .nil)) (.node (oK P 45) (.node (oT P 65) (.node (oF) .nil .nil) .nil) (.node (oK P 87) .nil .nil))))))
noncomputable def hF (P : Params) : Heap := ⟨Array.mk [boot_o_0 P, boot_o_1 P, boot_o_2 P, oK P 1, boot_o_4 P, boot_o_5 P, boot_o_6 P, boot_o_7 P, boot_o_8 P, boot_o_9 P, boot_o_10 P, oS, o12 22, o13, o14, oK P 2, oF, oK P 3, oK P 4, oT P 6, oK P 5, oK P 6, oK P 7, oF, oK P 8, oK P 9, oT P 11, oK P 10, oK P 11, oK P 12, oK P 13, oK P 14, oK P 15, oK P 16, oK P 17, oK P 18, oK P 19, oK P 20, oK P 21, oK P 22, oK P 23, oK P 24, oK P 25, oK P 26, oK P 27, oK P 28, oK P 29, oK P 30, oK P 31, oK P 32, oK P 33, oK P 34, oK P 35, oK P 36, oK P 37, oK P 38, oK P 39, oK P 40, oK P 41, oK P 42, oK P 43, oK P 44, oK P 45, oF, oK P 46, oK P 47, oT P 49, oK P 48, oK P 49, oK P 50, oK P 51, oF, oK P 52, oK P 53, oT P 55, oK P 54, oK P 55, oK P 56, o78, o79 P, oS, oF, o82, o83, oK P 57, oK P 58, oK P 59, oK P 60, o88, o89, oK P 61, oF, oK P 62, oK P 63, oT P 65, oK P 64, oK P 65, oK P 66, oF, oK P 67, oK P 68, oT P 70, oK P 69, oK P 70, oK P 71, oF, oK P 72, oK P 73, oT P 75, oK P 74, oK P 75, oK P 76, oF, oK P 77, oK P 78, oT P 80, oK P 79, oK P 80, oK P 81, oK P 82, oF, oK P 83, oK P 84, oT P 86, oK P 85, oK P 86, oK P 87, oK P 88, oF, oK P 89, oK P 90, oT P 92, oK P 91, oK P 92, oK P 93, oK P 94, oF, oK P 95, oK P 96, oT P 98, oK P 97, oK P 98, oK P 99, oK P 100, oF, oK P 101, oK P 102, oT P 104, oK P 103, oK P 104, oK P 105, oF, oK P 106, oK P 107, oT P 109, oK P 108, oK P 109, oK P 110, oF, oK P 111, oK P 112, oT P 114, oK P 113, oK P 114, oK P 115, oF, oK P 116, oK P 117, oT P 119, oK P 118, oK P 119, oK P 120, oF, oK P 121, oK P 122, oT P 124, oK P 123, oK P 124, oK P 125, oF, oK P 126, oK P 127, oT P 129, oK P 128, oK P 129, oK P 130, oF, oK P 131, oK P 132, oT P 134, oK P 133, oK P 134, oK P 135, oF, oK P 136, oK P 137, oT P 139, oK P 138, oK P 139, oK P 140, oF, oT P 142, oK P 141, oK P 142, oK P 143, oF, oT P 145, oK P 144, oK P 145], (boot_heap P).life⟩
noncomputable def tF (P : Params) : BT := .node (boot_o_0 P) (.node (boot_o_1 P) (.node (oK P 1) (.node (boot_o_7 P) (.node (oK P 2) (.node (oK P 14) (.node (oF) (.node (oK P 88) .nil .nil) (.node (oK P 134) .nil .nil)) (.node (oK P 64) (.node (oK P 111) .nil .nil) .nil)) (.node (oK P 30) (.node (o79 P) (.node (oK P 100) .nil .nil) (.node (oK P 144) .nil .nil)) (.node (oK P 76) (.node (oT P 124) .nil .nil) .nil))) (.node (oF) (.node (oK P 22) (.node (oF) (.node (oK P 94) .nil .nil) (.node (oK P 140) .nil .nil)) (.node (oK P 70) (.node (oK P 117) .nil .nil) .nil)) (.node (oK P 38) (.node (oK P 60) (.node (oF) .nil .nil) .nil) (.node (oK P 82) (.node (oK P 128) .nil .nil) .nil)))) (.node (oS) (.node (oT P 6) (.node (oK P 18) (.node (oK P 48) (.node (oT P 92) .nil .nil) (.node (oK P 137) .nil .nil)) (.node (oK P 67) (.node (oK P 114) .nil .nil) .nil)) (.node (oK P 34) (.node (o83) (.node (oT P 104) .nil .nil) .nil) (.node (oT P 80) (.node (oF) .nil .nil) .nil))) (.node (oK P 10) (.node (oK P 26) (.node (oK P 54) (.node (oT P 98) .nil .nil) (.node (oK P 142) .nil .nil)) (.node (oK P 73) (.node (oK P 120) .nil .nil) .nil)) (.node (oK P 42) (.node (oF) (.node (oK P 108) .nil .nil) .nil) (.node (oT P 86) (.node (oK P 131) .nil .nil) .nil))))) (.node (boot_o_5 P) (.node (boot_o_9 P) (.node (oK P 3) (.node (oK P 16) (.node (oK P 47) (.node (oK P 89) .nil .nil) (.node (oF) .nil .nil)) (.node (oK P 66) (.node (oT P 114) .nil .nil) .nil)) (.node (oK P 32) (.node (oF) (.node (oK P 101) .nil .nil) .nil) (.node (oK P 77) (.node (oK P 124) .nil .nil) .nil))) (.node (oK P 9) (.node (oK P 24) (.node (oK P 53) (.node (oK P 95) .nil .nil) (.node (oT P 142) .nil .nil)) (.node (oF) (.node (oK P 118) .nil .nil) .nil)) (.node (oK P 40) (.node (o89) (.node (oK P 107) .nil .nil) .nil) (.node (oK P 83) (.node (oK P 130) .nil .nil) .nil)))) (.node (o13) (.node (oK P 6) (.node (oK P 20) (.node (oK P 50) (.node (oK P 92) .nil .nil) (.node (oK P 138) .nil .nil)) (.node (oT P 70) (.node (oF) .nil .nil) .nil)) (.node (oK P 36) (.node (oK P 58) (.node (oK P 104) .nil .nil) .nil) (.node (oK P 80) (.node (oK P 127) .nil .nil) .nil))) (.node (oK P 12) (.node (oK P 28) (.node (oK P 56) (.node (oK P 98) .nil .nil) (.node (oF) .nil .nil)) (.node (oK P 74) (.node (oK P 121) .nil .nil) .nil)) (.node (oK P 44) (.node (oK P 63) (.node (oK P 110) .nil .nil) .nil) (.node (oK P 86) (.node (oT P 134) .nil .nil) .nil)))))) (.node (boot_o_2 P) (.node (boot_o_4 P) (.node (boot_o_8 P) (.node (oF) (.node (oK P 15) (.node (oK P 46) (.node (oF) .nil .nil) (.node (oK P 135) .nil .nil)) (.node (oK P 65) (.node (oK P 112) .nil .nil) .nil)) (.node (oK P 31) (.node (oS) (.node (oF) .nil .nil) (.node (oK P 145) .nil .nil)) (.node (oF) (.node (oK P 123) .nil .nil) .nil))) (.node (oK P 8) (.node (oK P 23) (.node (oK P 52) (.node (oF) .nil .nil) (.node (oF) .nil .nil)) (.node (oK P 71) (.node (oT P 119) .nil .nil) .nil)) (.node (oK P 39) (.node (o88) (.node (oK P 106) .nil .nil) .nil) (.node (oF) (.node (oK P 129) .nil .nil) .nil)))) (.node (o12 22) (.node (oK P 5) (.node (oK P 19) (.node (oK P 49) (.node (oK P 91) .nil .nil) (.node (oT P 139) .nil .nil)) (.node (oK P 68) (.node (oK P 115) .nil .nil) .nil)) (.node (oK P 35) (.node (oK P 57) (.node (oK P 103) .nil .nil) .nil) (.node (oK P 79) (.node (oK P 126) .nil .nil) .nil))) (.node (oK P 11) (.node (oK P 27) (.node (oK P 55) (.node (oK P 97) .nil .nil) (.node (oK P 143) .nil .nil)) (.node (oT P 75) (.node (oF) .nil .nil) .nil)) (.node (oK P 43) (.node (oK P 62) (.node (oK P 109) .nil .nil) .nil) (.node (oK P 85) (.node (oK P 132) .nil .nil) .nil))))) (.node (boot_o_6 P) (.node (boot_o_10 P) (.node (oK P 4) (.node (oK P 17) (.node (oT P 49) (.node (oK P 90) .nil .nil) (.node (oK P 136) .nil .nil)) (.node (oF) (.node (oK P 113) .nil .nil) .nil)) (.node (oK P 33) (.node (o82) (.node (oK P 102) .nil .nil) .nil) (.node (oK P 78) (.node (oK P 125) .nil .nil) .nil))) (.node (oT P 11) (.node (oK P 25) (.node (oT P 55) (.node (oK P 96) .nil .nil) (.node (oK P 141) .nil .nil)) (.node (oK P 72) (.node (oK P 119) .nil .nil) .nil)) (.node (oK P 41) (.node (oK P 61) (.node (oT P 109) .nil .nil) .nil) (.node (oK P 84) (.node (oF) .nil .nil) .nil)))) (.node (o14) (.node (oK P 7) (.node (oK P 21) (.node (oK P 51) (.node (oK P 93) .nil .nil) (.node (oK P 139) .nil .nil)) (.node (oK P 69) (.node (oK P 116) .nil .nil) .nil)) (.node (oK P 37) (.node (oK P 59) (.node (oK P 105) .nil .nil) .nil) (.node (oK P 81) (.node (oT P 129) .nil .nil) .nil))) (.node (oK P 13) (.node (oK P 29) (.node (o78) (.node (oK P 99) .nil .nil) (.node (oT P 145) .nil .nil)) (.node (oK P 75) (.node (oK P 122) .nil .nil) .nil)) (.node (oK P 45) (.node (oT P 65) (.node (oF) .nil .nil) .nil) (.node (oK P 87) (.node (oK P 133) .nil .nil) .nil))))))
noncomputable abbrev ann0 : Option Value := some (.ref 6)
noncomputable abbrev env0 : Env := { scope := pp.main.scope, locals := mainNs, globals := mainNs, cells := [], code := .ref 13, frame := some 14 }
noncomputable abbrev cE : Code := .body (behindTheImports pp) env0
noncomputable abbrev atP (a b c d : Nat) : Pos := { line := a, col := b, endLine := c, endCol := d }
noncomputable abbrev B0 : List Frame := [topFrame (atP 0 0 0 0)]
noncomputable abbrev sh (h : Heap) (k : Nat) (os : OsState) : Shared := ⟨h, Array.mk [], boot_drawn, k, os⟩
noncomputable abbrev shT (t : BT) (n k : Nat) (os : OsState) : SharedT := ⟨t, n, {}, Array.mk [], boot_drawn, k, os⟩
theorem top_pre (w : World) (os : OsState) : topGo treeTable pp w 11 ann0 12 (sh (boot_heap w.params) boot_toks os) (topStub pp) = some (sh (hA w.params) 187 os, ⟨denote treeTable cE, cE, atP 0 0 0 0, B0⟩) := by kernel_rfl
theorem top_block (w : World) (os : OsState) : segRun treeTable pp w 11 ann0 1 1 (sh (hA w.params) 187 os) (blockOf (behindTheImports pp) env0 cE (atP 0 0 0 0) B0) = some (.next, (shT (tA w.params) 15 187 os).abs, cE, atP 0 0 0 0) := by kernel_rfl
noncomputable abbrev sts1 : List Stmt := (behindTheImports pp).take 22
theorem top_1 (w : World) (os : OsState) : segRunT treeTable pp w 11 ann0 1 239 (shT (tA w.params) 15 187 os) (piecesOf sts1 env0 cE (atP 0 0 0 0) B0) = some (.next, shT (t1 w.params) 29 241 os, cE, (atP 25 0 25 7)) := by rw [PySem.W.Fast.te10110043849684766642, PySem.W.Fast.te14364793385576792824]; kernel_rfl
noncomputable abbrev sts2 : List Stmt := ((behindTheImports pp).drop 22).take 6
theorem top_2 (w : World) (os : OsState) : segRunT treeTable pp w 11 ann0 1 259 (shT (t1 w.params) 29 241 os) (piecesOf sts2 env0 cE (atP 25 0 25 7) B0) = some (.next, shT (t2 w.params) 77 291 os, cE, (atP 58 0 58 8)) := by rw [PySem.W.Fast.te10110043849684766642, PySem.W.Fast.te14364793385576792824]; kernel_rfl
noncomputable abbrev sts3 : List Stmt := ((behindTheImports pp).drop 28).take 5
theorem top_3 (w : World) (os : OsState) : segRunT treeTable pp w 11 ann0 1 286 (shT (t2 w.params) 77 291 os) (piecesOf sts3 env0 cE (atP 58 0 58 8) B0) = some (.next, shT (t3 w.params) 111 335 os, cE, (atP 84 0 84 4)) := by rw [PySem.W.Fast.te10110043849684766642, PySem.W.Fast.te14364793385576792824]; kernel_rfl
noncomputable abbrev sts4 : List Stmt := ((behindTheImports pp).drop 33).take 4
theorem top_4 (w : World) (os : OsState) : segRunT treeTable pp w 11 ann0 1 121 (shT (t3 w.params) 111 335 os) (piecesOf sts4 env0 cE (atP 84 0 84 4) B0) = some (.next, shT (t4 w.params) 134 374 os, cE, (atP 173 0 173 8)) := by rw [PySem.W.Fast.te10110043849684766642, PySem.W.Fast.te14364793385576792824]; kernel_rfl
noncomputable abbrev sts5 : List Stmt := ((behindTheImports pp).drop 37).take 6
theorem top_5 (w : World) (os : OsState) : segRunT treeTable pp w 11 ann0 1 171 (shT (t4 w.params) 134 374 os) (piecesOf sts5 env0 cE (atP 173 0 173 8) B0) = some (.next, shT (t5 w.params) 164 416 os, cE, (atP 192 0 192 27)) := by rw [PySem.W.Fast.te10110043849684766642, PySem.W.Fast.te14364793385576792824]; kernel_rfl
noncomputable abbrev sts6 : List Stmt := ((behindTheImports pp).drop 43).take 4
theorem top_6 (w : World) (os : OsState) : segRunT treeTable pp w 11 ann0 1 103 (shT (t5 w.params) 164 416 os) (piecesOf sts6 env0 cE (atP 192 0 192 27) B0) = some (.next, shT (t6 w.params) 185 445 os, cE, (atP 200 0 210 18)) := by rw [PySem.W.Fast.te10110043849684766642, PySem.W.Fast.te14364793385576792824]; kernel_rfl
noncomputable abbrev sts7 : List Stmt := (behindTheImports pp).drop 47
theorem top_7 (w : World) (os : OsState) : segRunT treeTable pp w 11 ann0 1 119 (shT (t6 w.params) 185 445 os) (piecesOf sts7 env0 cE (atP 200 0 210 18) B0) = some (.next, shT (tF w.params) 209 479 os, cE, (atP 240 0 266 15)) := by rw [PySem.W.Fast.te10110043849684766642, PySem.W.Fast.te14364793385576792824]; kernel_rfl
theorem top_fin (w : World) (os : OsState) : topRun treeTable pp w 11 ann0 2 (shT (tF w.params) 209 479 os).abs ⟨doneF .next, cE, atP 240 0 266 15, B0⟩ = some (sh (hF w.params) 479 os) := by kernel_rfl
theorem top_cut : behindTheImports pp = sts1 ++ (sts2 ++ (sts3 ++ (sts4 ++ (sts5 ++ (sts6 ++ (sts7 ++ [])))))) := by kernel_rfl
theorem top_run (w : World) (os : OsState) : topRun treeTable pp w 11 ann0 1313 (sh (boot_heap w.params) boot_toks os) (topStub pp) = some (sh (hF w.params) 479 os) :=
  go_top (N := 1301) (top_pre w os) (piece_block (N := 1300) (top_block w os) ((congrArg (fun l => topRun treeTable pp w 11 ann0 1300 (shT (tA w.params) 15 187 os).abs (restOf l env0 cE (atP 0 0 0 0) B0)) top_cut).trans (piece_app (segRun_of (top_1 w os)) (piece_app (segRun_of (top_2 w os)) (piece_app (segRun_of (top_3 w os)) (piece_app (segRun_of (top_4 w os)) (piece_app (segRun_of (top_5 w os)) (piece_app (segRun_of (top_6 w os)) (piece_app (segRun_of (top_7 w os)) (piece_nil (top_fin w os)))))))))))
/-! what the library asks of the top, each look a step of its own; the PySem.W.Fast.te.. are the library's own equations (its twins) -/
theorem top_open : ∀ w : World, (fencedOpening treeTable pp w 2708).map (fun s => (s.heap, s.gens, s.drawn, s.toks)) = some (boot_heap w.params, Array.mk [], boot_drawn, boot_toks) :=
  boot_open (by kernel_rfl) (by kernel_rfl) fun s => by kernel_rfl
theorem top_size (w : World) : ((boot_heap w.params).isNs mainGlobals && (Array.mk [] : Array GenState).size == 0, (boot_heap w.params).objs.size, (boot_heap w.params).nsMap mainGlobals "__annotations__") = (true, 11, ann0) := by kernel_rfl
theorem top_looks (w : World) (os : OsState) : (staticsOk (importedModules pp.main.body) (boot_heap w.params) (hF w.params) && namesBound pp (hF w.params) && gensDone (sh (hF w.params) 479 os) && laidKept (boot_heap w.params) (hF w.params)) = true := by kernel_rfl
noncomputable abbrev tLoose : List Str := [Str.ofString "_filemode_table", Str.ofString "bytes_types", Str.ofString "a2b_base64", Str.ofString "b2a_base64", Str.ofString "b64encode", Str.ofString "b64decode", Str.ofString "_urlsafe_encode_translation", Str.ofString "_urlsafe_decode_translation"]
noncomputable abbrev tRead : List (Str × WData) := [(Str.ofString "_filemode_table", WData.tuple [WData.tuple [WData.tuple [WData.int 40960, WData.str { cps := #[108] }], WData.tuple [WData.int 49152, WData.str { cps := #[115] }], WData.tuple [WData.int 32768, WData.str { cps := #[45] }], WData.tuple [WData.int 24576, WData.str { cps := #[98] }], WData.tuple [WData.int 16384, WData.str { cps := #[100] }], WData.tuple [WData.int 8192, WData.str { cps := #[99] }], WData.tuple [WData.int 4096, WData.str { cps := #[112] }]], WData.tuple [WData.tuple [WData.int 256, WData.str { cps := #[114] }]], WData.tuple [WData.tuple [WData.int 128, WData.str { cps := #[119] }]], WData.tuple [WData.tuple [WData.int 2112, WData.str { cps := #[115] }], WData.tuple [WData.int 2048, WData.str { cps := #[83] }], WData.tuple [WData.int 64, WData.str { cps := #[120] }]], WData.tuple [WData.tuple [WData.int 32, WData.str { cps := #[114] }]], WData.tuple [WData.tuple [WData.int 16, WData.str { cps := #[119] }]], WData.tuple [WData.tuple [WData.int 1032, WData.str { cps := #[115] }], WData.tuple [WData.int 1024, WData.str { cps := #[83] }], WData.tuple [WData.int 8, WData.str { cps := #[120] }]], WData.tuple [WData.tuple [WData.int 4, WData.str { cps := #[114] }]], WData.tuple [WData.tuple [WData.int 2, WData.str { cps := #[119] }]], WData.tuple [WData.tuple [WData.int 513, WData.str { cps := #[116] }], WData.tuple [WData.int 512, WData.str { cps := #[84] }], WData.tuple [WData.int 1, WData.str { cps := #[120] }]]]), (Str.ofString "_urlsafe_encode_translation", WData.bytes [0, 1, 2, 3, 4, 5, 6, 7, 8, 9, 10, 11, 12, 13, 14, 15, 16, 17, 18, 19, 20, 21, 22, 23, 24, 25, 26, 27, 28, 29, 30, 31, 32, 33, 34, 35, 36, 37, 38, 39, 40, 41, 42, 45, 44, 45, 46, 95, 48, 49, 50, 51, 52, 53, 54, 55, 56, 57, 58, 59, 60, 61, 62, 63, 64, 65, 66, 67, 68, 69, 70, 71, 72, 73, 74, 75, 76, 77, 78, 79, 80, 81, 82, 83, 84, 85, 86, 87, 88, 89, 90, 91, 92, 93, 94, 95, 96, 97, 98, 99, 100, 101, 102, 103, 104, 105, 106, 107, 108, 109, 110, 111, 112, 113, 114, 115, 116, 117, 118, 119, 120, 121, 122, 123, 124, 125, 126, 127, 128, 129, 130, 131, 132, 133, 134, 135, 136, 137, 138, 139, 140, 141, 142, 143, 144, 145, 146, 147, 148, 149, 150, 151, 152, 153, 154, 155, 156, 157, 158, 159, 160, 161, 162, 163, 164, 165, 166, 167, 168, 169, 170, 171, 172, 173, 174, 175, 176, 177, 178, 179, 180, 181, 182, 183, 184, 185, 186, 187, 188, 189, 190, 191, 192, 193, 194, 195, 196, 197, 198, 199, 200, 201, 202, 203, 204, 205, 206, 207, 208, 209, 210, 211, 212, 213, 214, 215, 216, 217, 218, 219, 220, 221, 222, 223, 224, 225, 226, 227, 228, 229, 230, 231, 232, 233, 234, 235, 236, 237, 238, 239, 240, 241, 242, 243, 244, 245, 246, 247, 248, 249, 250, 251, 252, 253, 254, 255]), (Str.ofString "_urlsafe_decode_translation", WData.bytes [0, 1, 2, 3, 4, 5, 6, 7, 8, 9, 10, 11, 12, 13, 14, 15, 16, 17, 18, 19, 20, 21, 22, 23, 24, 25, 26, 27, 28, 29, 30, 31, 32, 33, 34, 35, 36, 37, 38, 39, 40, 41, 42, 43, 44, 43, 46, 47, 48, 49, 50, 51, 52, 53, 54, 55, 56, 57, 58, 59, 60, 61, 62, 63, 64, 65, 66, 67, 68, 69, 70, 71, 72, 73, 74, 75, 76, 77, 78, 79, 80, 81, 82, 83, 84, 85, 86, 87, 88, 89, 90, 91, 92, 93, 94, 47, 96, 97, 98, 99, 100, 101, 102, 103, 104, 105, 106, 107, 108, 109, 110, 111, 112, 113, 114, 115, 116, 117, 118, 119, 120, 121, 122, 123, 124, 125, 126, 127, 128, 129, 130, 131, 132, 133, 134, 135, 136, 137, 138, 139, 140, 141, 142, 143, 144, 145, 146, 147, 148, 149, 150, 151, 152, 153, 154, 155, 156, 157, 158, 159, 160, 161, 162, 163, 164, 165, 166, 167, 168, 169, 170, 171, 172, 173, 174, 175, 176, 177, 178, 179, 180, 181, 182, 183, 184, 185, 186, 187, 188, 189, 190, 191, 192, 193, 194, 195, 196, 197, 198, 199, 200, 201, 202, 203, 204, 205, 206, 207, 208, 209, 210, 211, 212, 213, 214, 215, 216, 217, 218, 219, 220, 221, 222, 223, 224, 225, 226, 227, 228, 229, 230, 231, 232, 233, 234, 235, 236, 237, 238, 239, 240, 241, 242, 243, 244, 245, 246, 247, 248, 249, 250, 251, 252, 253, 254, 255])]
noncomputable abbrev tHook : Hook := (kmHook hd.heap_1 [2, 3, 15, 17, 18, 20, 21, 22, 24, 25, 27, 28, 29, 30, 31, 32, 33, 34, 35, 36, 37, 38, 39, 40, 41, 42, 43, 44, 45, 46, 47, 48, 49, 50, 51, 52, 53, 54, 55, 56, 57, 58, 59, 60, 61, 62, 64, 65, 67, 68, 69, 70, 72, 73, 75, 76, 77, 84, 85, 86, 87, 90, 92, 93, 95, 96, 97, 99, 100, 102, 103, 104, 106, 107, 109, 110, 111, 113, 114, 116, 117, 118, 119, 121, 122, 124, 125, 126, 127, 129, 130, 132, 133, 134, 135, 137, 138, 140, 141, 142, 143, 145, 146, 148, 149, 150, 152, 153, 155, 156, 157, 159, 160, 162, 163, 164, 166, 167, 169, 170, 171, 173, 174, 176, 177, 178, 180, 181, 183, 184, 185, 187, 188, 190, 191, 192, 194, 195, 197, 198, 199, 202, 203, 204, 207, 208] (fun _ => by kernel_rfl) [205])
noncomputable abbrev tXt (s : Shared) : Bool := xlAt hd.view_1 tRead s && recOk (RowW.records PySem.Challenge.rw_qh0096_01.row.toRowW) s
noncomputable abbrev sF (w : World) (os : OsState) : Shared := sh (hF w.params) 479 os
theorem top_s1 (w : World) (os : OsState) : seen ((recsOf hd.view_1).map (·.name)) (ownsOf hd.view_1) [] { sF w os with gens := #[] } = expectedOf hd.view_1 := by rw [PySem.W.Fast.te5160383126252970620, PySem.W.Fast.te3399658132070893891]; kernel_rfl
theorem top_s2 (w : World) (os : OsState) : (sF w os).heap.bltView = bltViewBooted := by kernel_rfl
theorem top_k1 (w : World) (os : OsState) : (sF w os).heap.keysOk (looseW hd.view_1 tLoose) ((recsOf hd.view_1).map (·.name)) ((litsOf hd.view_1).map (·.1)) ((clssOf hd.view_1 (looseW hd.view_1 tLoose)).map (·.name)) = true := by rw [PySem.W.Fast.te10880121769531294198, PySem.W.Fast.te821141287760084731, PySem.W.Fast.te3399658132070893891, PySem.W.Fast.te7409074990110511671, PySem.W.Fast.te13664370479719496447]; kernel_rfl
theorem top_k2 (w : World) (os : OsState) : (sF w os).heap.accountedOkI (importedModules pp.main.body) = true := by rw [PySem.W.Fast.te14722251495701143533]; kernel_rfl
theorem top_k3 (w : World) (os : OsState) : (sF w os).heap.isNs mainGlobals = true := by kernel_rfl
theorem top_k4 (w : World) (os : OsState) : (sF w os).heap.isNs builtinsNs = true := by kernel_rfl
theorem top_k5 (w : World) (os : OsState) : tablesOk hd.view_1 (sF w os).heap = true := by rw [PySem.W.Fast.te10994771534591457954]; kernel_rfl
theorem top_k6 (w : World) (os : OsState) : xlAt hd.view_1 tRead (sF w os) = true := by kernel_rfl
theorem top_k7 (w : World) (os : OsState) : recOk (RowW.records PySem.Challenge.rw_qh0096_01.row.toRowW) (sF w os) = true := by kernel_rfl
theorem top_k8 (w : World) (os : OsState) : (if true then (sF w os).gens.size == 0 else !leftWithCleanup (sF w os).gens) = true := by kernel_rfl
theorem top_s3 (w : World) (os : OsState) : ((sF w os).heap.keysOk (looseW hd.view_1 tLoose) ((recsOf hd.view_1).map (·.name)) ((litsOf hd.view_1).map (·.1)) ((clssOf hd.view_1 (looseW hd.view_1 tLoose)).map (·.name)) && (sF w os).heap.accountedOkI (importedModules pp.main.body) && (sF w os).heap.isNs mainGlobals && (sF w os).heap.isNs builtinsNs && tablesOk hd.view_1 (sF w os).heap && tXt (sF w os) && (if true then (sF w os).gens.size == 0 else !leftWithCleanup (sF w os).gens)) = true :=
  look_both (look_both (look_both (look_both (look_both (look_both (top_k1 w os) (top_k2 w os)) (top_k3 w os)) (top_k4 w os)) (top_k5 w os)) (look_both (top_k6 w os) (top_k7 w os))) (top_k8 w os)
theorem top_s4 (w : World) (os : OsState) : tabsOk hd.view_1 (sF w os) = true := by rw [PySem.W.Fast.te479339242167458305]; kernel_rfl
theorem top_s5 (w : World) (os : OsState) : pinSeenD hd.view_1 (drecsOf hd.view_1) (sF w os) = pinGoodD (drecsOf hd.view_1) := by rw [PySem.W.Fast.te16090120013241838585]; kernel_rfl
theorem top_s6 (w : World) (os : OsState) : plainSeenE hd.view_1 (looseW hd.view_1 tLoose) (sF w os) = plainGoodE hd.view_1 (looseW hd.view_1 tLoose) := by rw [PySem.W.Fast.te2386780881361962483, PySem.W.Fast.te821141287760084731]; kernel_rfl
theorem top_s7 (w : World) (os : OsState) : plainSeenD hd.view_1 tLoose (sF w os) = plainGoodD hd.view_1 tLoose := by rw [PySem.W.Fast.te11698064438423848299]; kernel_rfl
theorem top_s8 (w : World) (os : OsState) : wideSeen hd.view_1 (sF w os) = wideGood hd.view_1 := by rw [PySem.W.Fast.te7317090234206586261]; kernel_rfl
theorem top_s9 (w : World) (os : OsState) : clsSeenW hd.view_1 tLoose (sF w os) = clsGoodW hd.view_1 tLoose := by rw [PySem.W.Fast.te7369524293546568484]; kernel_rfl
theorem top_seen (w : World) (os : OsState) : openSeen hd.view_1 tLoose (importedModules pp.main.body) tXt true (sF w os) = openGood hd.view_1 tLoose :=
  looks_pair (top_s1 w os) (looks_pair (top_s2 w os) (looks_pair (top_s3 w os) (looks_pair (top_s4 w os) (looks_pair (top_s5 w os) (looks_pair (top_s6 w os) (looks_pair (top_s7 w os) (looks_pair (top_s8 w os) (top_s9 w os))))))))
theorem top_obs (w : World) (os : OsState) : Hook.obs tHook (sh (hF w.params) 479 os) = Hook.val tHook w := by kernel_rfl
theorem top_left : LeftO pp hd.view_1 tLoose tXt (Hook.obs tHook) (Hook.val tHook) 2708 true :=
  LeftO.of_pieces (M := 1313) top_open top_size (fun w os => top_run w os) (by kernel_rfl) fun w => funext fun os => looks_pair (top_looks w os) (looks_pair (top_seen w os) (top_obs w os))
theorem top_said1 : PySem.Challenge.rw_qh0096_01.row.wellSaid = true := by
  delta OpenRow.wellSaid OpenRow.partSaid looksOpen
  repeat' (with_reducible refine look_both ?_ ?_)
  all_goals repeat first | rewrite [PySem.W.Fast.te8326940854005059898] | rewrite [PySem.W.Fast.te17119622794617984870] | rewrite [PySem.W.Fast.te8377067652309620493] | rewrite [PySem.W.Fast.te18344453789297297638] | rewrite [PySem.W.Fast.te13343964577679436407] | rewrite [PySem.W.Fast.te5923862056798008813] | rewrite [PySem.W.Fast.te17691160309236699985] | rewrite [PySem.W.Fast.te3471404346716756564] | rewrite [PySem.W.Fast.te17868728402115742887] | rewrite [PySem.W.Fast.te9558739934217749035] | rewrite [PySem.W.Fast.te16286561074155671207] | rewrite [PySem.W.Fast.te797321630700447069] | rewrite [PySem.W.Fast.te9572597257264208301] | rewrite [PySem.W.Fast.te10792542408131684335] | rewrite [PySem.W.Fast.te6984425678791042302] | rewrite [PySem.W.Fast.te10501279942588096481] | rewrite [PySem.W.Fast.te8179353310426384613] | rewrite [PySem.W.Fast.te14412699480532031325] | rewrite [PySem.W.Fast.te13582783067957832011] | rewrite [PySem.W.Fast.te11788848310118352699] | rewrite [PySem.W.Fast.sDec_eq] | rewrite [PySem.W.Fast.named_eq]
  all_goals decide +kernel
theorem top_said : PySem.Challenge.rw_qh0096_01.wellSaid = true := by
  delta OpenLaw.wellSaid
  repeat' (with_reducible refine look_both ?_ ?_)
  any_goals with_reducible exact top_said1
  all_goals repeat first | rewrite [PySem.W.Fast.te8326940854005059898] | rewrite [PySem.W.Fast.te17119622794617984870] | rewrite [PySem.W.Fast.te8377067652309620493] | rewrite [PySem.W.Fast.te18344453789297297638] | rewrite [PySem.W.Fast.te13343964577679436407] | rewrite [PySem.W.Fast.te5923862056798008813] | rewrite [PySem.W.Fast.te17691160309236699985] | rewrite [PySem.W.Fast.te3471404346716756564] | rewrite [PySem.W.Fast.te17868728402115742887] | rewrite [PySem.W.Fast.te9558739934217749035] | rewrite [PySem.W.Fast.te16286561074155671207] | rewrite [PySem.W.Fast.te797321630700447069] | rewrite [PySem.W.Fast.te9572597257264208301] | rewrite [PySem.W.Fast.te10792542408131684335] | rewrite [PySem.W.Fast.te6984425678791042302] | rewrite [PySem.W.Fast.te10501279942588096481] | rewrite [PySem.W.Fast.te8179353310426384613] | rewrite [PySem.W.Fast.te14412699480532031325] | rewrite [PySem.W.Fast.te13582783067957832011] | rewrite [PySem.W.Fast.te11788848310118352699] | rewrite [PySem.W.Fast.sDec_eq] | rewrite [PySem.W.Fast.named_eq]
  all_goals decide +kernel
section
local macro_rules | `(tactic| o_law) => `(tactic| refine holds_law top_said fun said => ?_)
local macro_rules | `(tactic| k_head) => `(tactic| (refine holds_open (q := hd.view_1) (loose := tLoose) (Xt := tXt) (XP := XL hd.view_1 tRead) (Yf := Hook.obs tHook) (Ya := Hook.val tHook) (YP := Hook.says tHook) (N := 2708) top_left (Hook.of tHook) (Hook.keeps tHook) (fun s e => xl_of s (Bool.and_eq_true_iff.mp e).1) XL.keeps (by rfl) (by rfl) (by rfl) (fun s e => recFacts_of (Bool.and_eq_true_iff.mp e).2) (by rfl) (by assumption) (by decide +kernel) ⟨rfl, rfl, rfl, rfl, rfl, by decide +kernel⟩ ?hw ?hc; (case' hc => delta tLoose tRead tHook)))
open_top top for PySem.Challenge.rw_qh0096_01
end
/-- the head turned the walk's top lines on: off again -/
theorem top_off : True := by
  w_top off
  trivial
section
abbrev Aat (d u : Nat) (outer : List Env) (gd : Option (List Code)) : Around := { handled := none, depth := d, frames := some outer, guards := gd, units := u }

theorem wpAny_lower {α : Type} {M : Model} {A : Around} {d u : Nat} {outer : List Env} {t : Sem α} {Q : α → Shared → Prop} {E : Value → Shared → Prop} {s : Shared}
    (h : wpAny M (Aat d u outer A.guards) t Q E s) (hh : A.handled = none) (hf : A.frames = some outer) (hd : A.depth ≤ d) (hu : A.units ≤ u) : wpAny M A t Q E s :=
  fun Γ p hΓ => h Γ p ⟨hΓ.1.trans hh, Nat.le_trans hΓ.2.1 hd, fun l hl => hΓ.2.2.1 l (hf.trans hl), hΓ.2.2.2.1, Nat.le_trans hΓ.2.2.2.2 hu⟩

/-- what a call finds: the frames below, the written part, the top's facts -/
structure Here (w : World) (loose : List Str) (mean : ExcName → Option Value) (mg mb : Str → Option Value) (A : Around) (base : Heap) (outer : List Env) (h : Heap) : Prop where
  B : Below A base outer h
  X : (hd.heap_1 w.params).In h
  T : Top topProg loose mean mg mb h

theorem Below.swap {A A' : Around} {base h : Heap} {outer : List Env} (B : Below A base outer h) (hf : A'.frames = some outer) : Below A' base outer h := ⟨hf, B.stays, B.frames⟩

theorem Here.down {w : World} {loose : List Str} {mean : ExcName → Option Value} {mg mb : Str → Option Value} {A₀ A : Around} {base h₀ h : Heap} {outer : List Env} {L : Addr} {m : Str → Option Value} {env : Env}
    (B : Below A₀ base outer h₀) (F : Fr h₀ L h m) (X : (hd.heap_1 w.params).In h₀) (T : Top topProg loose mean mg mb h₀) (hA : A.frames = some (env :: outer)) (hf : env.frame = some L) (hk : env.scope.kind = .function) :
    Here w loose mean mg mb A base (env :: outer) h := ⟨Below.swap (pushX B F hf hk) hA, X.keeps F.keep, T.keeps F.keep⟩

/-- entering a def: the callee's base is the caller's whole heap, its ledger is empty -/
theorem enter {prog : Program} {w : World} {loose : List Str} {mean : ExcName → Option Value} {mg mb : Str → Option Value} {A : Around} {base : Heap} {outer : List Env} {s : Shared} {Q E : Value → Shared → Prop}
    {name qual : Str} {params : Arguments} {body : List Stmt} {scope : Scope} {dV kV doc pm cdv ct oc : Value} {an od : Option Addr} {osl : Array (Option Value)} {f : Addr} {args : List Value} {kw : List (Str × Value)} (binds : List (Str × Value))
    (H : Here w loose mean mg mb A base outer s.heap)
    (ho : (hd.heap_1 w.params).lookup f = some ⟨oc, od, .func (fnOf name qual params body scope dV kV doc pm an cdv ct), osl⟩) (hcd : codeIn (hd.heap_1 w.params) cdv qual = true) (hroom : A.depth < recursionLimit)
    (hbind : BindsTo s (fnOf name qual params body scope dV kV doc pm an cdv ct) ⟨args, kw⟩ binds) (hloc : ∀ y ∈ binds, scope.names.lookup y.1 = some .local)
    (h : ∀ L' h₁ tk, Fr s.heap L' h₁ (fun y => binds.reverse.lookup y) → News s.heap L' h₁ [] → Below A base outer s.heap → (hd.heap_1 w.params).In s.heap → Top topProg loose mean mg mb s.heap →
      wpAny (model prog w) (A.deeper (envOf qual scope L' f cdv)) (execs body (envOf qual scope L' f cdv))
        (fun fl s' => Q (match fl with | .ret v => v | _ => .none) s')
        (fun e s' => wpAny (model prog w) (A.deeper (envOf qual scope L' f cdv)) (leaving (envOf qual scope L' f cdv) e) (fun _ s'' => E e s'') (fun e' s'' => E e' s'') s')
        { s with heap := h₁, toks := tk })
    (hco : scope.isCoroutine = false) (hgen : scope.isGenerator = false) (hk : scope.kind = .function)
    (hcell : ∀ x ∈ scope.names, x.2 ≠ .cell) : wpAny (model prog w) A (call (.ref f) args kw) Q E s := by
  refine wpAny_call (codeAny_call_def (fd := fnOf name qual params body scope dV kV doc pm an cdv ct) (body := body) (binds := binds) hroom (H.X _ _ ho) rfl H.T.nolimit (codeRec_of H.X hcd) rfl hbind hcell hloc (fun h₁ hns hk₁ => ?_) hco hgen hk)
  exact h s.heap.objs.size h₁ _ ⟨hns, hk₁, Nat.le_refl _⟩ News.nil H.B H.X H.T

abbrev Keeps (h h' : Heap) : Prop := ∀ b o, h.get? b = some o → h'.get? b = some o

section
variable {s : Shared} {L : Addr} {m : Str → Option Value} {h' : Heap} {tk' : Nat} {Q : Value → Shared → Prop}
theorem ret_int {x y : Int} {t : Tok} (hret : ∀ h' tk' t', Keeps s.heap h' → Q (.int x t') { s with heap := h', toks := tk' }) (e : y = x) (F : Fr s.heap L h' m) : Q (.int y t) { s with heap := h', toks := tk' } := e ▸ hret h' tk' t F.keep
theorem ret_str {x y : Str} {t : Tok} (hret : ∀ h' tk' t', Keeps s.heap h' → Q (.str x t') { s with heap := h', toks := tk' }) (e : y = x) (F : Fr s.heap L h' m) : Q (.str y t) { s with heap := h', toks := tk' } := e ▸ hret h' tk' t F.keep
theorem ret_bytes {x y : Array UInt8} {t : Tok} (hret : ∀ h' tk' t', Keeps s.heap h' → Q (.bytes x t') { s with heap := h', toks := tk' }) (e : y = x) (F : Fr s.heap L h' m) : Q (.bytes y t) { s with heap := h', toks := tk' } := e ▸ hret h' tk' t F.keep
end

/-- a goal at which the walk stops -/
def Stop (P : Prop) : Prop := P
theorem stop_here {P : Prop} (h : Stop P) : P := h
theorem Stop.out {P : Prop} (h : Stop P) : P := h
theorem Stop.of {P : Prop} (h : P) : Stop P := h
/-- a fact that the walk must not look at -/
structure Hid (P : Prop) : Prop where
  out : P

/-- a contract used at a call in a frame -/
theorem frAfter {h₀ h h' : Heap} {L : Addr} {m : Str → Option Value} (F : Fr h₀ L h m) (k : Keeps h h') : Fr h₀ L h' m := F.keeps k
theorem newsAfter {h₀ h h' : Heap} {L : Addr} {news : List (Addr × Obj)} (N : News h₀ L h news) (k : Keeps h h') : News h₀ L h' news := fun p hp => ⟨k _ _ (N p hp).1, (N p hp).2⟩
end
section
def b64v (c : Int) : Int := if 65 ≤ c ∧ c ≤ 90 then c - 65 else if 97 ≤ c ∧ c ≤ 122 then c - 71 else if 48 ≤ c ∧ c ≤ 57 then c + 4 else if c = 43 then 62 else if c = 47 then 63 else 64

theorem b64_value_ok {w : World} {loose : List Str} {mean : ExcName → Option Value} {mg mb : Str → Option Value} {base : Heap} {outer : List Env} {gd : Option (List Code)} {s : Shared} {Q E : Value → Shared → Prop} {c : Int} {t : Tok}
    (H : Here w loose mean mg mb (Aat 900 9000 outer gd) base outer s.heap)
    (hret : ∀ h' tk' t', Keeps s.heap h' → Q (.int (b64v c) t') { s with heap := h', toks := tk' }) :
    wpAny (model Challenge.rw_qh0096_01.row.prog w) (Aat 900 9000 outer gd) (call (.ref 117) [.int c t]) Q E s := by
  have X := H.X
  revert X; k_fill; intro X
  refine' enter [(Str.ofString "c", .int c t)] H ?k6 ?k7 ?k8 ?k9 ?kB ?_ ?c2 ?c3 ?c4 ?c5
  (k_dflt ((case k6 => k_is); (case k7 => k_is); (case k8 => k_room); (case k9 => first | exact BindsTo.of_eq rfl | exact binds_K (by k_in) rfl (by k_is) rfl rfl rfl); (case c5 => decide); (case kB => exact locs rfl); (case c2 => exact rfl); (case c3 => exact rfl); (case c4 => exact rfl)))
  clear H X
  intro L' h' tk' F' N' B' X' T'
  try dsimp only
  k_fold
  (repeat' (first | (k_unfold; (try dsimp only)) | (k_end; wrow_close) | walk1 | (dsimp only; walk1) | (leave1; walk_say "STEP leave1"; try dsimp only) | fail "no step"))
  all_goals ((try dsimp only); refine ret_int (s := s) hret ?_ (by assumption); simp only [b64v]; (repeat' split) <;> omega)

section
variable {w : World} {loose : List Str} {mean : ExcName → Option Value} {mg mb : Str → Option Value} {A₀ A : Around} {base h₀ : Heap} {outer : List Env} {s : Shared} {Q E : Value → Shared → Prop} {L : Addr} {m : Str → Option Value} {news : List (Addr × Obj)} {env : Env}
theorem b64_value_use {c : Int} {t : Tok} (B : Below A₀ base outer h₀) (F : Fr h₀ L s.heap m) (X : (hd.heap_1 w.params).In h₀) (N : News h₀ L s.heap news) (T : Top topProg loose mean mg mb h₀)
    (hA : A.frames = some (env :: outer)) (hf : env.frame = some L) (hk : env.scope.kind = .function) (hh : A.handled = none) (hd : A.depth ≤ 900) (hu : A.units ≤ 9000)
    (h : ∀ t' h' tk', Fr h₀ L h' m → News h₀ L h' news → Q (.int (b64v c) t') { s with heap := h', toks := tk' }) :
    wpAny (model Challenge.rw_qh0096_01.row.prog w) A (call (.ref 117) [.int c t]) Q E s :=
  wpAny_lower (b64_value_ok (Here.down B F X T rfl hf hk) fun h' tk' t' k => h t' h' tk' (frAfter F k) (newsAfter N k)) hh hA hd hu
end
end
section
theorem kstB_self {m : Str → Option Value} {ps : List (Str × Value)} (h : ∀ p ∈ ps, m p.1 = some p.2) : kstB m ps = m := funext fun _ => kstB_eq h fun _ => rfl

/-- the names hold these values -/
def Binds (m : Str → Option Value) : List (Str × Value) → Prop
  | [] => True
  | p :: r => m p.1 = some p.2 ∧ Binds m r
theorem Binds.all {m : Str → Option Value} : ∀ {ps : List (Str × Value)}, Binds m ps → ∀ p ∈ ps, m p.1 = some p.2
  | _ :: _, ⟨h, _⟩, _, .head _ => h
  | _ :: _, ⟨_, r⟩, _, .tail _ hp => r.all _ hp

section
variable {prog : Program} {w : World} {A : Around} {E : Value → Shared → Prop} {s : Shared} {env : Env} {h₀ : Heap} {x : Str} {body : List Stmt} {Q : Flow → Shared → Prop}

/-- where a turn of a loop ends: the names and the ledger as the next state says, the word holds -/
def TurnJ {σ : Type} (Led : σ → List (Addr × Obj)) (ps : σ → List (Str × Value)) (P : σ → Prop) (m : Str → Option Value) (nx : List (Addr × Obj)) : Prop :=
  ∃ c : σ, nx = Led c ∧ (∀ p ∈ ps c, m p.1 = some p.2) ∧ P c

theorem for_bytes {σ : Type} {b : Array UInt8} {tb : Tok} {m₀ : Str → Option Value} (Led : σ → List (Addr × Obj)) (ps : σ → List (Str × Value)) (P : List Int → σ → Prop) (c₀ : σ)
    (hh : A.handled = none) (F : Fr h₀ env.locals s.heap m₀) (N : News h₀ env.locals s.heap (Led c₀)) (hk : Binds m₀ (ps c₀)) (hp : P [] c₀)
    (turn : ∀ (c : σ) (pre : List Int) (n : Int) (post : List Int) t u h tk own, KBw.bInts b = pre ++ n :: post → 0 ≤ n → n < 256 → OwnOff own ((Led c₀).map (·.1)) → P pre c →
      Fr h₀ env.locals h (fun y => if y = x then some (.int n t) else kstB u (ps c) y) → News h₀ env.locals h (Led c ++ own) →
      wpAny (model prog w) A (execs body env) (InvPostN h₀ env.locals (TurnJ Led ps (P (pre ++ [n]))) own ((Led c₀).map (·.1)) { s with heap := h, toks := tk } Q) E { s with heap := h, toks := tk })
    (done : ∀ (c : σ) u h tk, P (KBw.bInts b) c → Fr h₀ env.locals h (kstB u (ps c)) → News h₀ env.locals h (Led c) → Q .next { s with heap := h, toks := tk }) :
    wpAny (model prog w) A (pyIter (.bytes b tb)) (fun it s₂ => LoopAtV prog w A h₀ env x body Q E it s₂) E s := by
  refine KBmo.iter_bytesN (fun i => TurnJ Led ps (P ((KBw.bInts b).take i))) rfl hh F N ⟨c₀, rfl, hk.all, by simpa using hp⟩ ?_ ?_
  · rintro i n t m₁ nx h tk own hn h0 h1 hoff ⟨c, rfl, hb, hP⟩ F₁ N₁
    have hs : (KBw.bInts b).take (i + 1) = (KBw.bInts b).take i ++ [n] := by simp [List.take_add_one, hn]
    have e : KBw.bInts b = (KBw.bInts b).take i ++ n :: (KBw.bInts b).drop (i + 1) := by
      have ht := List.take_append_drop (i + 1) (KBw.bInts b)
      rw [hs, List.append_assoc] at ht
      exact ht.symm
    rw [hs]
    refine turn c _ n _ t m₁ h tk own e h0 h1 hoff hP ?_ N₁
    rw [kstB_self hb]; exact F₁
  · rintro m₁ nx h tk ⟨c, rfl, hb, hP⟩ F₁ N₁
    rw [List.take_length] at hP
    refine done c m₁ h tk hP ?_ N₁
    rw [kstB_self hb]; exact F₁

/-- a turn's end -/
theorem turn_end {σ : Type} {Led : σ → List (Addr × Obj)} {ps : σ → List (Str × Value)} {P : σ → Prop} {L : Addr} {h' : Heap} {tk : Nat} {m' : Str → Option Value} {own news' : List (Addr × Obj)} {adr : List Addr} {s₁ : Shared} (c : σ)
    (F : Fr h₀ L h' m') (N : News h₀ L h' news') (hl : ∀ p ∈ Led c, p ∈ news') (ho : ∀ p ∈ own, p ∈ news') (ha : (Led c).map (·.1) = adr) (hb : Binds m' (ps c)) (hP : P c) :
    InvEndN h₀ L (TurnJ Led ps P) own adr s₁ { s₁ with heap := h', toks := tk } := ⟨h', tk, m', news', Led c, rfl, F, N, hl, ho, ha, c, rfl, hb.all, hP⟩
end
end
section
theorem truth_ok {w : World} {loose : List Str} {mean : ExcName → Option Value} {mg mb : Str → Option Value} {base : Heap} {outer : List Env} {gd : Option (List Code)} {s : Shared} {Q E : Value → Shared → Prop} {x : Bool}
    (H : Here w loose mean mg mb (Aat 900 9000 outer gd) base outer s.heap)
    (hret : ∀ h' tk', Keeps s.heap h' → Q (.bool x) { s with heap := h', toks := tk' }) :
    wpAny (model Challenge.rw_qh0096_01.row.prog w) (Aat 900 9000 outer gd) (call (.ref 110) [.bool x]) Q E s := by
  have X := H.X
  revert X; k_fill; intro X
  refine' enter [(Str.ofString "x", .bool x)] H ?k6 ?k7 ?k8 ?k9 ?kB ?_ ?c2 ?c3 ?c4 ?c5
  (k_dflt ((case k6 => k_is); (case k7 => k_is); (case k8 => k_room); (case k9 => first | exact BindsTo.of_eq rfl | exact binds_K (by k_in) rfl (by k_is) rfl rfl rfl); (case c5 => decide); (case kB => exact locs rfl); (case c2 => exact rfl); (case c3 => exact rfl); (case c4 => exact rfl)))
  clear H X
  intro L' h' tk' F' N' B' X' T'
  try dsimp only
  k_fold
  (repeat' (first | (k_unfold; (try dsimp only)) | (k_end; wrow_close) | (first | with_reducible ((with_reducible show wpAny _ _ (call _ [Value.bytes _ _]) _ _ _); refine call_type_of (Tx := "bytes") rfl (by decide +kernel) ?_) | ((with_reducible show wpAny _ _ (call _ [Value.bytes _ _]) _ _ _); refine call_type_of (Tx := "bytes") rfl (by decide +kernel) ?_) | with_reducible ((with_reducible show ite _ _ _); first | (refine ite_pos (by ((try simp only [decide_eq_true_eq, beq_iff_eq, bne_iff_ne, ne_eq, Bool.not_eq_true']); omega)) ?_; walk_say "m ite +") | (refine ite_neg (by ((try simp only [decide_eq_true_eq, beq_iff_eq, bne_iff_ne, ne_eq, Bool.not_eq_true']); omega)) ?_; walk_say "m ite -")) | with_reducible ((with_reducible show InvEndN _ _ _ _ _ _ _); refine stop_here ?_)) | walk1 | (dsimp only; walk1) | (leave1; walk_say "STEP leave1"; try dsimp only) | fail "no step"))
  all_goals ((try dsimp only); (have F0 := (by assumption : Fr s.heap _ _ _)); cases x <;> first | exact hret _ _ F0.keep | contradiction)

theorem ascii_buffer_ok {w : World} {loose : List Str} {mean : ExcName → Option Value} {mg mb : Str → Option Value} {base : Heap} {outer : List Env} {gd : Option (List Code)} {s : Shared} {Q E : Value → Shared → Prop} {x : Array UInt8} {t : Tok}
    (H : Here w loose mean mg mb (Aat 900 9000 outer gd) base outer s.heap)
    (hret : ∀ h' tk', Keeps s.heap h' → Q (.bytes x t) { s with heap := h', toks := tk' }) :
    wpAny (model Challenge.rw_qh0096_01.row.prog w) (Aat 900 9000 outer gd) (call (.ref 96) [.bytes x t]) Q E s := by
  have X := H.X
  revert X; k_fill; intro X
  refine' enter [(Str.ofString "data", .bytes x t)] H ?k6 ?k7 ?k8 ?k9 ?kB ?_ ?c2 ?c3 ?c4 ?c5
  (k_dflt ((case k6 => k_is); (case k7 => k_is); (case k8 => k_room); (case k9 => first | exact BindsTo.of_eq rfl | exact binds_K (by k_in) rfl (by k_is) rfl rfl rfl); (case c5 => decide); (case kB => exact locs rfl); (case c2 => exact rfl); (case c3 => exact rfl); (case c4 => exact rfl)))
  clear H X
  intro L' h' tk' F' N' B' X' T'
  try dsimp only
  k_fold
  (repeat' (first | (k_unfold; (try dsimp only)) | (k_end; wrow_close) | (first | with_reducible ((with_reducible show wpAny _ _ (call _ [Value.bytes _ _]) _ _ _); refine call_type_of (Tx := "bytes") rfl (by decide +kernel) ?_) | ((with_reducible show wpAny _ _ (call _ [Value.bytes _ _]) _ _ _); refine call_type_of (Tx := "bytes") rfl (by decide +kernel) ?_) | with_reducible ((with_reducible show ite _ _ _); first | (refine ite_pos (by ((try simp only [decide_eq_true_eq, beq_iff_eq, bne_iff_ne, ne_eq, Bool.not_eq_true']); omega)) ?_; walk_say "m ite +") | (refine ite_neg (by ((try simp only [decide_eq_true_eq, beq_iff_eq, bne_iff_ne, ne_eq, Bool.not_eq_true']); omega)) ?_; walk_say "m ite -")) | with_reducible ((with_reducible show InvEndN _ _ _ _ _ _ _); refine stop_here ?_)) | walk1 | (dsimp only; walk1) | (leave1; walk_say "STEP leave1"; try dsimp only) | fail "no step"))
  all_goals ((try dsimp only); (have F0 := (by assumption : Fr s.heap _ _ _)); exact hret _ _ F0.keep)

theorem buffer_ok {w : World} {loose : List Str} {mean : ExcName → Option Value} {mg mb : Str → Option Value} {base : Heap} {outer : List Env} {gd : Option (List Code)} {s : Shared} {Q E : Value → Shared → Prop} {x : Array UInt8} {t : Tok}
    (H : Here w loose mean mg mb (Aat 900 9000 outer gd) base outer s.heap)
    (hret : ∀ h' tk', Keeps s.heap h' → Q (.bytes x t) { s with heap := h', toks := tk' }) :
    wpAny (model Challenge.rw_qh0096_01.row.prog w) (Aat 900 9000 outer gd) (call (.ref 103) [.bytes x t]) Q E s := by
  have X := H.X
  revert X; k_fill; intro X
  refine' enter [(Str.ofString "data", .bytes x t)] H ?k6 ?k7 ?k8 ?k9 ?kB ?_ ?c2 ?c3 ?c4 ?c5
  (k_dflt ((case k6 => k_is); (case k7 => k_is); (case k8 => k_room); (case k9 => first | exact BindsTo.of_eq rfl | exact binds_K (by k_in) rfl (by k_is) rfl rfl rfl); (case c5 => decide); (case kB => exact locs rfl); (case c2 => exact rfl); (case c3 => exact rfl); (case c4 => exact rfl)))
  clear H X
  intro L' h' tk' F' N' B' X' T'
  try dsimp only
  k_fold
  (repeat' (first | (k_unfold; (try dsimp only)) | (k_end; wrow_close) | (first | with_reducible ((with_reducible show wpAny _ _ (call _ [Value.bytes _ _]) _ _ _); refine call_type_of (Tx := "bytes") rfl (by decide +kernel) ?_) | ((with_reducible show wpAny _ _ (call _ [Value.bytes _ _]) _ _ _); refine call_type_of (Tx := "bytes") rfl (by decide +kernel) ?_) | with_reducible ((with_reducible show ite _ _ _); first | (refine ite_pos (by ((try simp only [decide_eq_true_eq, beq_iff_eq, bne_iff_ne, ne_eq, Bool.not_eq_true']); omega)) ?_; walk_say "m ite +") | (refine ite_neg (by ((try simp only [decide_eq_true_eq, beq_iff_eq, bne_iff_ne, ne_eq, Bool.not_eq_true']); omega)) ?_; walk_say "m ite -")) | with_reducible ((with_reducible show InvEndN _ _ _ _ _ _ _); refine stop_here ?_)) | walk1 | (dsimp only; walk1) | (leave1; walk_say "STEP leave1"; try dsimp only) | fail "no step"))
  all_goals ((try dsimp only); (have F0 := (by assumption : Fr s.heap _ _ _)); exact hret _ _ F0.keep)

section
variable {w : World} {loose : List Str} {mean : ExcName → Option Value} {mg mb : Str → Option Value} {A₀ A : Around} {base h₀ : Heap} {outer : List Env} {s : Shared} {Q E : Value → Shared → Prop} {L : Addr} {m : Str → Option Value} {news : List (Addr × Obj)} {env : Env}
theorem truth_use {x : Bool} (B : Below A₀ base outer h₀) (F : Fr h₀ L s.heap m) (X : (hd.heap_1 w.params).In h₀) (N : News h₀ L s.heap news) (T : Top topProg loose mean mg mb h₀)
    (hA : A.frames = some (env :: outer)) (hf : env.frame = some L) (hk : env.scope.kind = .function) (hh : A.handled = none) (hd : A.depth ≤ 900) (hu : A.units ≤ 9000)
    (h : ∀ h' tk', Fr h₀ L h' m → News h₀ L h' news → Q (.bool x) { s with heap := h', toks := tk' }) :
    wpAny (model Challenge.rw_qh0096_01.row.prog w) A (call (.ref 110) [.bool x]) Q E s :=
  wpAny_lower (truth_ok (Here.down B F X T rfl hf hk) fun h' tk' k => h h' tk' (frAfter F k) (newsAfter N k)) hh hA hd hu
theorem ascii_buffer_use {x : Array UInt8} {t : Tok} (B : Below A₀ base outer h₀) (F : Fr h₀ L s.heap m) (X : (hd.heap_1 w.params).In h₀) (N : News h₀ L s.heap news) (T : Top topProg loose mean mg mb h₀)
    (hA : A.frames = some (env :: outer)) (hf : env.frame = some L) (hk : env.scope.kind = .function) (hh : A.handled = none) (hd : A.depth ≤ 900) (hu : A.units ≤ 9000)
    (h : ∀ h' tk', Fr h₀ L h' m → News h₀ L h' news → Q (.bytes x t) { s with heap := h', toks := tk' }) :
    wpAny (model Challenge.rw_qh0096_01.row.prog w) A (call (.ref 96) [.bytes x t]) Q E s :=
  wpAny_lower (ascii_buffer_ok (Here.down B F X T rfl hf hk) fun h' tk' k => h h' tk' (frAfter F k) (newsAfter N k)) hh hA hd hu
theorem buffer_use {x : Array UInt8} {t : Tok} (B : Below A₀ base outer h₀) (F : Fr h₀ L s.heap m) (X : (hd.heap_1 w.params).In h₀) (N : News h₀ L s.heap news) (T : Top topProg loose mean mg mb h₀)
    (hA : A.frames = some (env :: outer)) (hf : env.frame = some L) (hk : env.scope.kind = .function) (hh : A.handled = none) (hd : A.depth ≤ 900) (hu : A.units ≤ 9000)
    (h : ∀ h' tk', Fr h₀ L h' m → News h₀ L h' news → Q (.bytes x t) { s with heap := h', toks := tk' }) :
    wpAny (model Challenge.rw_qh0096_01.row.prog w) A (call (.ref 103) [.bytes x t]) Q E s :=
  wpAny_lower (buffer_ok (Here.down B F X T rfl hf hk) fun h' tk' k => h h' tk' (frAfter F k) (newsAfter N k)) hh hA hd hu
end
end
section
/-! plain: the 6-bit values of a text, and the fold that a2b_base64 runs over them -/
def good (c : Int) : Bool := decide (c ≠ 61) && decide (b64v c < 64)
def vals (ds : List Int) : List Int := (ds.filter good).map b64v

abbrev St6 := Int × Int × List Int
def stp (c : St6) (v : Int) : St6 :=
  if c.1 = 0 then (1, v, c.2.2)
  else if c.1 = 1 then (2, v % 16, c.2.2 ++ [c.2.1 * 4 + v / 16])
  else if c.1 = 2 then (3, v % 4, c.2.2 ++ [c.2.1 * 16 + v / 4])
  else (0, 0, c.2.2 ++ [c.2.1 * 64 + v])
def fold6 (vs : List Int) : St6 := vs.foldl stp (0, 0, [])

theorem fold6_snoc (vs : List Int) (v : Int) : fold6 (vs ++ [v]) = stp (fold6 vs) v := by simp [fold6, List.foldl_append]
theorem vals_snoc_good {ds : List Int} {c : Int} (h1 : c ≠ 61) (h2 : b64v c < 64) : vals (ds ++ [c]) = vals ds ++ [b64v c] := by
  simp [vals, good, h1, h2]
theorem vals_snoc_bad {ds : List Int} {c : Int} (h : c = 61 ∨ ¬ b64v c < 64) : vals (ds ++ [c]) = vals ds := by
  rcases h with h | h <;> simp [vals, good, h]
theorem b64v_nonneg {c : Int} (h : 0 ≤ c) : 0 ≤ b64v c := by unfold b64v; (repeat' split) <;> omega
theorem b64v_le {c : Int} : b64v c ≤ 64 := by unfold b64v; (repeat' split) <;> omega

/-- what the fold's state is like behind any values -/
structure Ok6 (k : Nat) (c : St6) : Prop where
  q : c.1 = (k % 4 : Nat)
  l0 : 0 ≤ c.2.1
  l1 : c.2.1 < 64
  l2 : c.1 = 2 → c.2.1 < 16
  l3 : c.1 = 3 → c.2.1 < 4
  len : c.2.2.length = k * 3 / 4
  bytes : ∀ n ∈ c.2.2, 0 ≤ n ∧ n < 256
theorem ok6_step {k : Nat} {c : St6} {v : Int} (h : Ok6 k c) (h0 : 0 ≤ v) (h1 : v < 64) : Ok6 (k + 1) (stp c v) := by
  obtain ⟨q, l, out⟩ := c
  obtain ⟨hq, hl0, hl1, hl2, hl3, hlen, hb⟩ := h
  dsimp only at *
  have hk : k % 4 = 0 ∨ k % 4 = 1 ∨ k % 4 = 2 ∨ k % 4 = 3 := by omega
  rcases hk with e | e | e | e <;> rw [e] at hq <;> subst hq <;> simp only [stp] <;> simp only [Int.natCast_zero, Int.natCast_one, Int.cast_ofNat_Int, if_true, if_false, reduceIte, Int.reduceEq] <;>
    (refine ⟨?_, ?_, ?_, ?_, ?_, ?_, ?_⟩) <;> dsimp only <;> (try omega)
  all_goals first
    | (simp only [List.length_append, List.length_cons, List.length_nil]; omega)
    | (intro n hn
       first
         | exact hb n hn
         | (rcases List.mem_append.mp hn with hn | hn
            · exact hb n hn
            · simp only [List.mem_singleton] at hn
              have := hl2
              have := hl3
              subst hn
              simp only [Int.reduceEq, false_implies, true_implies, Int.natCast_one, Int.cast_ofNat_Int] at *
              omega))
theorem ok6_foldl : ∀ (vs : List Int) (k : Nat) (c : St6), Ok6 k c → (∀ v ∈ vs, 0 ≤ v ∧ v < 64) → Ok6 (k + vs.length) (vs.foldl stp c)
  | [], k, c, h, _ => h
  | v :: vs, k, c, h, hv => by
    have := ok6_foldl vs (k + 1) (stp c v) (ok6_step h (hv v (by simp)).1 (hv v (by simp)).2) fun x hx => hv x (by simp [hx])
    rw [List.foldl_cons, List.length_cons]
    rwa [Nat.add_right_comm, Nat.add_assoc] at this
theorem ok6 (vs : List Int) (h : ∀ v ∈ vs, 0 ≤ v ∧ v < 64) : Ok6 vs.length (fold6 vs) := by
  have := ok6_foldl vs 0 (0, 0, []) ⟨rfl, by decide, by decide, by decide, by decide, rfl, fun _ h => nomatch h⟩ h
  rwa [Nat.zero_add] at this
theorem vals_in {ds : List Int} (h : ∀ c ∈ ds, 0 ≤ c) : ∀ v ∈ vals ds, 0 ≤ v ∧ v < 64 := by
  intro v hv
  obtain ⟨c, hc, rfl⟩ := List.mem_map.mp hv
  obtain ⟨h1, h2⟩ := List.mem_filter.mp hc
  simp only [good, Bool.and_eq_true, decide_eq_true_eq] at h2
  exact ⟨b64v_nonneg (h c h1), h2.2⟩
theorem vals_len_le (ds : List Int) : (vals ds).length ≤ ds.length := by
  simp only [vals, List.length_map]; exact List.length_filter_le _ _
end
section
theorem split_pad {pre post xs : List Int} {n : Int} {k : Nat} (h : pre ++ n :: post = xs ++ List.replicate k 61) (hx : (61 : Int) ∉ xs) :
    (n = 61 → ∃ j, j < k ∧ pre = xs ++ List.replicate j 61) ∧ (n ≠ 61 → (61 : Int) ∉ pre ∧ n ∈ xs ∧ ∀ x ∈ pre, x ∈ xs) := by
  rcases List.append_eq_append_iff.mp h with ⟨a, h1, h2⟩ | ⟨a, h1, h2⟩
  · -- xs = pre ++ a, n :: post = a ++ replicate
    cases a with
    | nil =>
      simp only [List.nil_append, List.append_nil] at h1 h2
      cases k with
      | zero => simp at h2
      | succ k =>
        rw [List.replicate_succ] at h2
        injection h2 with h3 h4
        subst h3
        refine ⟨fun _ => ⟨0, by omega, by simp [h1]⟩, fun q => absurd rfl q⟩
    | cons b a =>
      simp only [List.cons_append] at h2
      injection h2 with h3 h4
      subst h3
      have hn : n ∈ xs := by simp [h1]
      refine ⟨fun q => absurd (q ▸ hn) hx, fun _ => ⟨fun q => hx (by simp [h1, q]), hn, fun x hx' => by simp [h1, hx']⟩⟩
  · -- pre = xs ++ a, replicate k = a ++ n :: post
    have hn : n = 61 := List.eq_of_mem_replicate (n := k) (by rw [h2]; simp)
    have ha : a = List.replicate a.length 61 := List.eq_replicate_iff.mpr ⟨rfl, fun b hb => List.eq_of_mem_replicate (n := k) (by rw [h2]; simp [hb])⟩
    have hl : a.length < k := by
      have := congrArg List.length h2
      simp only [List.length_replicate, List.length_append, List.length_cons] at this
      omega
    exact ⟨fun _ => ⟨a.length, hl, by rw [← ha]; exact h1⟩, fun q => absurd hn q⟩
theorem vals_pads (xs : List Int) (j : Nat) : vals (xs ++ List.replicate j 61) = vals xs := by
  simp only [vals, List.filter_append, List.map_append]
  have : (List.replicate j (61 : Int)).filter good = [] := List.filter_eq_nil_iff.mpr fun x hx => by rw [List.eq_of_mem_replicate hx]; decide
  rw [this]; simp
theorem count_pads {xs : List Int} (hx : (61 : Int) ∉ xs) (j : Nat) : (xs ++ List.replicate j 61).count 61 = j := by
  rw [List.count_append, List.count_eq_zero_of_not_mem hx]; simp

/-- what a2b_base64 gives back for xs (no = in it) with k times = behind -/
def a2bOut (strict : Bool) (xs : List Int) (k : Nat) : Except Str (List Int) :=
  if strict = true ∧ xs.any (fun x => decide (64 ≤ b64v x)) = true then .error (Str.ofString "Only base64 data is allowed")
  else if (vals xs).length % 4 = 1 then .error (Str.ofString "Invalid base64-encoded string: number of data characters (" ++ Str.ofString (toString ((vals xs).length : Int)) ++ Str.ofString ") cannot be 1 more than a multiple of 4")
  else if (vals xs).length % 4 ≠ 0 ∧ (vals xs).length % 4 + k < 4 then .error (Str.ofString "Incorrect padding")
  else .ok (fold6 (vals xs)).2.2

theorem or_shift2 {a b : Int} (h0 : 0 ≤ a) (h1 : a < 64) (h2 : 0 ≤ b) (h3 : b < 64) : Builtin.bitOr (a * 4) (b / 16) = a * 4 + b / 16 := by
  have key : ∀ x : Fin 64, ∀ y : Fin 4, Builtin.bitOr ((x.val : Int) * 4) (y.val : Int) = (x.val : Int) * 4 + (y.val : Int) := by decide +kernel
  have := key ⟨a.toNat, by omega⟩ ⟨(b / 16).toNat, by omega⟩
  have e1 : (a.toNat : Int) = a := by omega
  have e2 : ((b / 16).toNat : Int) = b / 16 := by omega
  simpa only [e1, e2] using this
end
section
structure A2B where
  q : Int
  l : Int
  p : Int
  i : Int
  tq : Tok
  tl : Tok
  tp : Tok
  ti : Tok
  vs : List Value
  ns : List Int
  ep : Nat
abbrev a2bLed (D : Addr) (c : A2B) : List (Addr × Obj) := [(D, W.listOf c.vs.toArray c.ep)]
abbrev a2bPs (D : Addr) (strict : Bool) (c : A2B) : List (Str × Value) := [(Str.ofString "out", .ref D), (Str.ofString "strict_mode", .bool strict), (Str.ofString "quad_pos", .int c.q c.tq), (Str.ofString "leftchar", .int c.l c.tl), (Str.ofString "pads", .int c.p c.tp), (Str.ofString "i", .int c.i c.ti)]
structure A2bP (strict : Bool) (pre : List Int) (c : A2B) : Prop where
  hints : IntsAre c.vs c.ns
  hst : (c.q, c.l, c.ns) = fold6 (vals pre)
  hpads : c.p = (pre.count 61 : Nat)
  hi : c.i = (pre.length : Nat)
  hfine : strict = true → ∀ x ∈ pre, x = 61 ∨ b64v x < 64

section
variable {strict : Bool} {pre : List Int} {q l p i n : Int} {vs : List Value} {ns : List Int} {ep : Nat} {t1 t2 t3 t4 u1 u2 u3 u4 : Tok}
theorem a2b_eq (hI : IntsAre vs ns) (hst : (q, l, ns) = fold6 (vals pre)) (hp : p = (pre.count 61 : Nat)) (hi : i = (pre.length : Nat)) (hf : strict = true → ∀ x ∈ pre, x = 61 ∨ b64v x < 64) :
    A2bP strict (pre ++ [61]) ⟨q, l, p + 1, i + 1, u1, u2, u3, u4, vs, ns, ep⟩ := by
  refine ⟨hI, ?_, ?_, ?_, fun e x hx => ?_⟩
  · rw [vals_snoc_bad (.inl rfl)]; exact hst
  · simp [hp]
  · simp [hi]
  · rcases List.mem_append.mp hx with h | h
    · exact hf e x h
    · exact .inl (List.mem_singleton.mp h)
theorem a2b_bad (hI : IntsAre vs ns) (hst : (q, l, ns) = fold6 (vals pre)) (hp : p = (pre.count 61 : Nat)) (hi : i = (pre.length : Nat)) (hn : n ≠ 61) (hb : 64 ≤ b64v n) (hs : strict = false) :
    A2bP strict (pre ++ [n]) ⟨q, l, p, i + 1, u1, u2, u3, u4, vs, ns, ep⟩ := by
  refine ⟨hI, ?_, ?_, ?_, fun e => ?_⟩
  · rw [vals_snoc_bad (.inr (by omega))]; exact hst
  · simp [hp, hn]
  · simp [hi]
  · rw [hs] at e; cases e
theorem a2b_good {ns' : List Int} {vs' : List Value} {q' l' : Int} {ep' : Nat} (hI : IntsAre vs' ns') (hst : (q, l, ns) = fold6 (vals pre)) (hpre : (61 : Int) ∉ pre) (hi : i = (pre.length : Nat)) (hf : strict = true → ∀ x ∈ pre, x = 61 ∨ b64v x < 64)
    (hn : n ≠ 61) (hb : ¬ 64 ≤ b64v n) (h : (q', l', ns') = stp (q, l, ns) (b64v n)) : A2bP strict (pre ++ [n]) ⟨q', l', 0, i + 1, u1, u2, u3, u4, vs', ns', ep'⟩ := by
  refine ⟨hI, ?_, ?_, ?_, fun e x hx => ?_⟩
  · rw [vals_snoc_good hn (by omega), fold6_snoc, ← hst]; exact h
  · rw [List.count_append, List.count_eq_zero_of_not_mem hpre]; simp [hn]
  · simp [hi]
  · rcases List.mem_append.mp hx with z | z
    · exact hf e x z
    · rw [List.mem_singleton.mp z]; exact .inr (by omega)
theorem a2b_q0 (hI : IntsAre vs ns) (hst : (q, l, ns) = fold6 (vals pre)) (hpre : (61 : Int) ∉ pre) (hi : i = (pre.length : Nat)) (hf : strict = true → ∀ x ∈ pre, x = 61 ∨ b64v x < 64)
    (hn : n ≠ 61) (hb : ¬ 64 ≤ b64v n) (hq : q = 0) : A2bP strict (pre ++ [n]) ⟨1, b64v n, 0, i + 1, u1, u2, u3, u4, vs, ns, ep⟩ :=
  a2b_good hI hst hpre hi hf hn hb (by subst hq; rfl)

theorem or_at (k : Nat) (M : Nat) (key : ∀ x : Fin M, ∀ y : Fin (2 ^ k), Builtin.bitOr ((x.val : Int) * 2 ^ k) (y.val : Int) = (x.val : Int) * 2 ^ k + (y.val : Int)) {a b : Int} (h0 : 0 ≤ a) (h1 : a < M) (h2 : 0 ≤ b) (h3 : b < 2 ^ k) :
    Builtin.bitOr (a * 2 ^ k) b = a * 2 ^ k + b := by
  have h3' : b.toNat < 2 ^ k := by
    have : ((2 ^ k : Nat) : Int) = 2 ^ k := by simp
    omega
  have := key ⟨a.toNat, by omega⟩ ⟨b.toNat, h3'⟩
  have e1 : (a.toNat : Int) = a := by omega
  have e2 : (b.toNat : Int) = b := by omega
  simpa only [e1, e2] using this
theorem or2 {a b : Int} (h0 : 0 ≤ a) (h1 : a < 64) (h2 : 0 ≤ b) (h3 : b < 64) : Builtin.bitOr (a * 2 ^ Int.toNat 2) (b.fdiv (2 ^ Int.toNat 4)) = a * 4 + b / 16 := by
  have e : b.fdiv (2 ^ Int.toNat 4) = b / 16 := by rw [show ((2 : Int) ^ Int.toNat 4) = 16 from rfl]; exact Int.fdiv_eq_ediv_of_nonneg _ (by decide)
  rw [e]
  exact or_at 2 64 (by decide +kernel) h0 h1 (by omega) (by omega)
theorem or4 {a b : Int} (h0 : 0 ≤ a) (h1 : a < 16) (h2 : 0 ≤ b) (h3 : b < 64) : Builtin.bitOr (a * 2 ^ Int.toNat 4) (b.fdiv (2 ^ Int.toNat 2)) = a * 16 + b / 4 := by
  have e : b.fdiv (2 ^ Int.toNat 2) = b / 4 := by rw [show ((2 : Int) ^ Int.toNat 2) = 4 from rfl]; exact Int.fdiv_eq_ediv_of_nonneg _ (by decide)
  rw [e]
  exact or_at 4 16 (by decide +kernel) h0 h1 (by omega) (by omega)
theorem or6 {a b : Int} (h0 : 0 ≤ a) (h1 : a < 4) (h2 : 0 ≤ b) (h3 : b < 64) : Builtin.bitOr (a * 2 ^ Int.toNat 6) b = a * 64 + b := or_at 6 4 (by decide +kernel) h0 h1 h2 h3
theorem and15 {b : Int} (h2 : 0 ≤ b) (h3 : b < 64) : Builtin.bitAnd b 15 = b % 16 := by
  have key : ∀ y : Fin 64, Builtin.bitAnd (y.val : Int) 15 = (y.val : Int) % 16 := by decide +kernel
  have := key ⟨b.toNat, by omega⟩
  have e2 : (b.toNat : Int) = b := by omega
  simpa only [e2] using this
theorem and3 {b : Int} (h2 : 0 ≤ b) (h3 : b < 64) : Builtin.bitAnd b 3 = b % 4 := by
  have key : ∀ y : Fin 64, Builtin.bitAnd (y.val : Int) 3 = (y.val : Int) % 4 := by decide +kernel
  have := key ⟨b.toNat, by omega⟩
  have e2 : (b.toNat : Int) = b := by omega
  simpa only [e2] using this

theorem a2b_q1 (hI : IntsAre vs ns) (hst : (q, l, ns) = fold6 (vals pre)) (hpre : (61 : Int) ∉ pre) (hi : i = (pre.length : Nat)) (hf : strict = true → ∀ x ∈ pre, x = 61 ∨ b64v x < 64)
    (hn : n ≠ 61) (hb : ¬ 64 ≤ b64v n) (hq : q = 1) (h0 : 0 ≤ n) (hl0 : 0 ≤ l) (hl1 : l < 64) :
    A2bP strict (pre ++ [n]) ⟨2, Builtin.bitAnd (b64v n) 15, 0, i + 1, u1, u2, u3, u4, vs ++ [.int (Builtin.bitOr (l * 2 ^ Int.toNat 2) ((b64v n).fdiv (2 ^ Int.toNat 4))) t1], ns ++ [l * 4 + b64v n / 16], ep⟩ := by
  have hv := b64v_nonneg h0
  rw [or2 hl0 hl1 hv (by omega), and15 hv (by omega)]
  exact a2b_good (IntsAre.append hI (.cons _ _ .nil)) hst hpre hi hf hn hb (by subst hq; rfl)
theorem a2b_q2 (hI : IntsAre vs ns) (hst : (q, l, ns) = fold6 (vals pre)) (hpre : (61 : Int) ∉ pre) (hi : i = (pre.length : Nat)) (hf : strict = true → ∀ x ∈ pre, x = 61 ∨ b64v x < 64)
    (hn : n ≠ 61) (hb : ¬ 64 ≤ b64v n) (hq : q = 2) (h0 : 0 ≤ n) (hl0 : 0 ≤ l) (hl1 : q = 2 → l < 16) :
    A2bP strict (pre ++ [n]) ⟨3, Builtin.bitAnd (b64v n) 3, 0, i + 1, u1, u2, u3, u4, vs ++ [.int (Builtin.bitOr (l * 2 ^ Int.toNat 4) ((b64v n).fdiv (2 ^ Int.toNat 2))) t1], ns ++ [l * 16 + b64v n / 4], ep⟩ := by
  have hv := b64v_nonneg h0
  rw [or4 hl0 (hl1 hq) hv (by omega), and3 hv (by omega)]
  exact a2b_good (IntsAre.append hI (.cons _ _ .nil)) hst hpre hi hf hn hb (by subst hq; rfl)
theorem a2b_q3 (hI : IntsAre vs ns) (hst : (q, l, ns) = fold6 (vals pre)) (hpre : (61 : Int) ∉ pre) (hi : i = (pre.length : Nat)) (hf : strict = true → ∀ x ∈ pre, x = 61 ∨ b64v x < 64)
    (hn : n ≠ 61) (hb : ¬ 64 ≤ b64v n) (hq : q = 3) (h0 : 0 ≤ n) (hl0 : 0 ≤ l) (hl1 : q = 3 → l < 4) :
    A2bP strict (pre ++ [n]) ⟨0, 0, 0, i + 1, u1, u2, u3, u4, vs ++ [.int (Builtin.bitOr (l * 2 ^ Int.toNat 6) (b64v n)) t1], ns ++ [l * 64 + b64v n], ep⟩ := by
  have hv := b64v_nonneg h0
  rw [or6 hl0 (hl1 hq) hv (by omega)]
  exact a2b_good (IntsAre.append hI (.cons _ _ .nil)) hst hpre hi hf hn hb (by subst hq; rfl)
end
theorem a2b_fine {strict : Bool} {xs ds : List Int} {k : Nat} (hds : ds = xs ++ List.replicate k 61) (hx : (61 : Int) ∉ xs) (hf : strict = true → ∀ x ∈ ds, x = 61 ∨ b64v x < 64) :
    ¬ (strict = true ∧ xs.any (fun x => decide (64 ≤ b64v x)) = true) := by
  rintro ⟨e, h⟩
  obtain ⟨x, hx1, hx2⟩ := List.any_eq_true.mp h
  rcases hf e x (by rw [hds]; simp [hx1]) with z | z
  · exact hx (z ▸ hx1)
  · have := of_decide_eq_true hx2; omega
theorem a2bOut_inv {strict : Bool} {xs : List Int} {k n : Nat} (h0 : ¬ (strict = true ∧ xs.any (fun x => decide (64 ≤ b64v x)) = true)) (h : (vals xs).length % 4 = 1) (hn : n = (vals xs).length * 3 / 4) :
    a2bOut strict xs k = .error (Str.ofString "Invalid base64-encoded string: number of data characters (" ++ Str.ofString (toString ((n : Int).fdiv 3 * 4 + 1)) ++ Str.ofString ") cannot be 1 more than a multiple of 4") := by
  have e : (n : Int).fdiv 3 * 4 + 1 = ((vals xs).length : Int) := by
    rw [Int.fdiv_eq_ediv_of_nonneg _ (by decide)]; omega
  unfold a2bOut
  rw [if_neg h0, if_pos h, e]
theorem a2bOut_pad {strict : Bool} {xs : List Int} {k : Nat} (h0 : ¬ (strict = true ∧ xs.any (fun x => decide (64 ≤ b64v x)) = true)) (h : (vals xs).length % 4 ≠ 1) (h2 : (vals xs).length % 4 ≠ 0 ∧ (vals xs).length % 4 + k < 4) :
    a2bOut strict xs k = .error (Str.ofString "Incorrect padding") := by
  unfold a2bOut
  rw [if_neg h0, if_neg h, if_pos h2]
theorem a2bOut_ok {strict : Bool} {xs : List Int} {k : Nat} (h0 : ¬ (strict = true ∧ xs.any (fun x => decide (64 ≤ b64v x)) = true)) (h : (vals xs).length % 4 ≠ 1) (h2 : ¬ ((vals xs).length % 4 ≠ 0 ∧ (vals xs).length % 4 + k < 4)) :
    a2bOut strict xs k = .ok (fold6 (vals xs)).2.2 := by
  unfold a2bOut
  rw [if_neg h0, if_neg h, if_neg h2]
theorem led_head {α : Type} {x : α} {r : List α} : ∀ p ∈ [x], p ∈ x :: r := fun p hp => by rw [List.mem_singleton.mp hp]; exact .head _
theorem led_tail {α : Type} {x : α} {r : List α} : ∀ p ∈ r, p ∈ x :: r := fun _ hp => .tail _ hp
end
section
theorem raised_drop {base G : Heap} {l : List Env} {e t : Addr} {cls : Value} {vs : List Value} {news : List (Addr × Obj)} {h : Heap} (R : RaisedS base G l e cls t vs news h) : RaisedS base G l e cls t vs [] h := by
  unfold RaisedS at R ⊢
  refine ⟨?_, R.2⟩
  obtain ⟨B, hB, hBG, _, hfl, hnew⟩ := R.1
  exact ⟨B, hB, hBG, fun q hq => absurd hq List.not_mem_nil, hfl, hnew⟩

theorem a2b_ok {w : World} {loose : List Str} {mean : ExcName → Option Value} {mg mb : Str → Option Value} {base : Heap} {outer : List Env} {gd : Option (List Code)} {s : Shared} {Q E : Value → Shared → Prop} {bs : Array UInt8} {t : Tok} {strict : Bool} {xs : List Int} {k : Nat}
    (H : Here w loose mean mg mb (Aat 890 8900 outer gd) base outer s.heap) (hbs : bs.size ≤ 100) (hds : KBw.bInts bs = xs ++ List.replicate k 61) (hx : (61 : Int) ∉ xs)
    (hpad : strict = true → k = 0 ∨ (2 ≤ (vals xs).length % 4 ∧ (vals xs).length % 4 + k ≤ 4))
    (hret : ∀ out, a2bOut strict xs k = .ok out → ∀ h' tk' t', Keeps s.heap h' → Q (.bytes (byteArr out) t') { s with heap := h', toks := tk' })
    (herr : ∀ msg, a2bOut strict xs k = .error msg → ∀ e t' u h' tk', RaisedS base s.heap outer e (.ref 86) t' [.str msg u] [] h' → s.heap.UpToSlots h' → E (.ref e) { s with heap := h', toks := tk' }) :
    wpAny (model Challenge.rw_qh0096_01.row.prog w) (Aat 890 8900 outer gd) (call (.ref 125) [.bytes bs t] [(Str.ofString "strict_mode", .bool strict)]) Q E s := by
  replace hret := Hid.mk hret
  replace herr := Hid.mk herr
  replace hds := Hid.mk hds
  replace hx := Hid.mk hx
  replace hpad := Hid.mk hpad
  have X := H.X
  revert X; k_fill; intro X
  refine' enter [(Str.ofString "data", .bytes bs t), (Str.ofString "strict_mode", .bool strict)] H ?k6 ?k7 ?k8 ?k9 ?kB ?_ ?c2 ?c3 ?c4 ?c5
  (k_dflt ((case k6 => k_is); (case k7 => k_is); (case k8 => k_room); (case k9 => first | exact BindsTo.of_eq rfl | exact binds_K (by k_in) rfl (by k_is) rfl rfl rfl); (case c5 => decide); (case kB => exact locs rfl); (case c2 => exact rfl); (case c3 => exact rfl); (case c4 => exact rfl)))
  clear H X
  intro L' h' tk' F' N' B' X' T'
  try dsimp only
  k_fold
  (repeat' (first | (k_unfold; (try dsimp only)) | (first | with_reducible ((with_reducible show wpAny _ _ (leaving _ (Value.ref _)) _ _ _); (k_here; (refine' leave_raiseS (by assumption) (by assumption) (by assumption) (by k_asm) ?_; k_whole; intro h' t' RS' R' U'; (try dsimp only at RS' U' ⊢)))) | with_reducible ((with_reducible show wpAny _ _ (pyIter (Value.bytes _ _)) _ _ _); refine stop_here ?_) | with_reducible ((with_reducible show wpAny _ _ (exec (Stmt.For (Expr.Name _ _) (Expr.Name _ _) (List.cons _ _) [] _) _) _ _ _); (k_here; (rename Fr _ _ _ _ => lF'); (with_unfolding_all refine' For_invVF lF' (by exact rfl) (by exact rfl) ?_; k_whole))) | with_reducible ((with_reducible show wpAny _ _ (call (Value.ref _) _ _) _ _ _); (k_here; first | ((with_reducible show wpAny _ _ (call (Value.ref 117) _ _) _ _ _); k_dflt (refine' b64_value_use (by k_asm) (by k_asm) (by k_asm) (by k_asm) (by k_asm) (by exact rfl) (by exact rfl) (by exact rfl) (by exact rfl) (by exact Nat.le_of_ble_eq_true rfl) (by exact Nat.le_of_ble_eq_true rfl) ?_; k_whole; intro t9 h9 tk9 F9 N9; (try dsimp only); (try k_sweep))) | ((with_reducible show wpAny _ _ (call (Value.ref 110) _ _) _ _ _); k_dflt (refine' truth_use (by k_asm) (by k_asm) (by k_asm) (by k_asm) (by k_asm) (by exact rfl) (by exact rfl) (by exact rfl) (by exact rfl) (by exact Nat.le_of_ble_eq_true rfl) (by exact Nat.le_of_ble_eq_true rfl) ?_; k_whole; intro h9 tk9 F9 N9; (try dsimp only); (try k_sweep))) | ((with_reducible show wpAny _ _ (call (Value.ref 96) _ _) _ _ _); k_dflt (refine' ascii_buffer_use (by k_asm) (by k_asm) (by k_asm) (by k_asm) (by k_asm) (by exact rfl) (by exact rfl) (by exact rfl) (by exact rfl) (by exact Nat.le_of_ble_eq_true rfl) (by exact Nat.le_of_ble_eq_true rfl) ?_; k_whole; intro h9 tk9 F9 N9; (try dsimp only); (try k_sweep))))) | with_reducible ((with_reducible show ite _ _ _); first | (refine ite_pos (by ((try simp only [decide_eq_true_eq, beq_iff_eq, bne_iff_ne, ne_eq, Bool.not_eq_true']); omega)) ?_; walk_say "m ite +") | (refine ite_neg (by ((try simp only [decide_eq_true_eq, beq_iff_eq, bne_iff_ne, ne_eq, Bool.not_eq_true']); omega)) ?_; walk_say "m ite -")) | with_reducible ((with_reducible show InvEndN _ _ _ _ _ _ _); refine stop_here ?_)) | walk1 | (dsimp only; walk1) | (leave1; walk_say "STEP leave1"; try dsimp only) | fail "no step"))
  refine Stop.of ?_
  rename News _ _ _ [(_, _)] => nN
  rename Fr _ _ _ _ => nF
  refine for_bytes (a2bLed _) (a2bPs _ strict) (A2bP strict) ⟨0, 0, 0, 0, _, _, _, _, [], [], 0⟩ rfl nF nN ⟨rfl, rfl, rfl, rfl, rfl, rfl, trivial⟩ ?_ ?_ ?_
  · exact ⟨.nil, rfl, rfl, rfl, fun _ _ h => nomatch h⟩
  · rintro ⟨q, l, p, i, tq, tl, tp, ti, vs, ns, ep⟩ pre n post t u h tk own hks hn0 hn1 hoff ⟨hI, hst, hp, hi, hfine⟩ kFr kNews
    have kL := congrArg List.length hks
    rw [KBw.ints_length] at kL
    simp only [List.length_append, List.length_cons] at kL
    have hge : ∀ c ∈ pre, 0 ≤ c := fun c hc => (KBw.ints_in (b := bs) (by rw [hks]; simp [hc])).1
    have hok := ok6 (vals pre) (vals_in hge)
    rw [← hst] at hok
    obtain ⟨hq, hl0, hl1, hl2, hl3, hlen, hbts⟩ := hok
    obtain ⟨hsp1, hsp2⟩ := split_pad (hks.symm.trans hds.out) hx.out
    have hI2 := hI.length
    simp only [a2bLed, List.map_cons, List.map_nil] at hoff
    dsimp only at *
    simp only [a2bLed, List.nil_append, List.cons_append, List.append_nil] at kNews
    dsimp only [kstB, a2bPs] at kFr
    clear nF nN
    dsimp only [envOf] at kFr kNews
    have hq3 : 0 ≤ q ∧ q ≤ 3 := by omega
    have hsz : vs.length ≤ 100 := by
      have := vals_len_le pre
      omega
    replace hst := Hid.mk hst
    replace hp := Hid.mk hp
    replace hi := Hid.mk hi
    replace hfine := Hid.mk hfine
    replace hks := Hid.mk hks
    replace hge := Hid.mk hge
    replace hlen := Hid.mk hlen
    replace hbts := Hid.mk hbts
    replace hq := Hid.mk hq
    replace hl2 := Hid.mk hl2
    replace hl3 := Hid.mk hl3
    replace kL := Hid.mk kL
    by_cases hn : n = 61
    · obtain ⟨j, hjk, hpre⟩ := hsp1 hn
      have hpj : p = (j : Nat) := by rw [hp.out, hpre, count_pads hx.out]
      have hval : vals pre = vals xs := by rw [hpre, vals_pads]
      have hst' : strict = true → 2 ≤ q ∧ q + p + 1 ≤ 4 := fun e => by
        have hq := hq.out
        rcases hpad.out e with z | z
        · omega
        · rw [hval] at hq; omega
      clear hsp1 hsp2
      subst hn
      replace hpre := Hid.mk hpre
      replace hval := Hid.mk hval
      replace hpj := Hid.mk hpj
      replace hjk := Hid.mk hjk
      cases strict
      · clear hst'
        (repeat' (first | (k_unfold; (try dsimp only)) | (first | with_reducible ((with_reducible show wpAny _ _ (leaving _ (Value.ref _)) _ _ _); (k_here; (refine' leave_raiseS (by assumption) (by assumption) (by assumption) (by k_asm) ?_; k_whole; intro h' t' RS' R' U'; (try dsimp only at RS' U' ⊢)))) | with_reducible ((with_reducible show wpAny _ _ (pyIter (Value.bytes _ _)) _ _ _); refine stop_here ?_) | with_reducible ((with_reducible show wpAny _ _ (exec (Stmt.For (Expr.Name _ _) (Expr.Name _ _) (List.cons _ _) [] _) _) _ _ _); (k_here; (rename Fr _ _ _ _ => lF'); (with_unfolding_all refine' For_invVF lF' (by exact rfl) (by exact rfl) ?_; k_whole))) | with_reducible ((with_reducible show wpAny _ _ (call (Value.ref _) _ _) _ _ _); (k_here; first | ((with_reducible show wpAny _ _ (call (Value.ref 117) _ _) _ _ _); k_dflt (refine' b64_value_use (by k_asm) (by k_asm) (by k_asm) (by k_asm) (by k_asm) (by exact rfl) (by exact rfl) (by exact rfl) (by exact rfl) (by exact Nat.le_of_ble_eq_true rfl) (by exact Nat.le_of_ble_eq_true rfl) ?_; k_whole; intro t9 h9 tk9 F9 N9; (try dsimp only); (try k_sweep))) | ((with_reducible show wpAny _ _ (call (Value.ref 110) _ _) _ _ _); k_dflt (refine' truth_use (by k_asm) (by k_asm) (by k_asm) (by k_asm) (by k_asm) (by exact rfl) (by exact rfl) (by exact rfl) (by exact rfl) (by exact Nat.le_of_ble_eq_true rfl) (by exact Nat.le_of_ble_eq_true rfl) ?_; k_whole; intro h9 tk9 F9 N9; (try dsimp only); (try k_sweep))) | ((with_reducible show wpAny _ _ (call (Value.ref 96) _ _) _ _ _); k_dflt (refine' ascii_buffer_use (by k_asm) (by k_asm) (by k_asm) (by k_asm) (by k_asm) (by exact rfl) (by exact rfl) (by exact rfl) (by exact rfl) (by exact Nat.le_of_ble_eq_true rfl) (by exact Nat.le_of_ble_eq_true rfl) ?_; k_whole; intro h9 tk9 F9 N9; (try dsimp only); (try k_sweep))))) | with_reducible ((with_reducible show ite _ _ _); first | (refine ite_pos (by ((try simp only [decide_eq_true_eq, beq_iff_eq, bne_iff_ne, ne_eq, Bool.not_eq_true']); omega)) ?_; walk_say "m ite +") | (refine ite_neg (by ((try simp only [decide_eq_true_eq, beq_iff_eq, bne_iff_ne, ne_eq, Bool.not_eq_true']); omega)) ?_; walk_say "m ite -")) | with_reducible ((with_reducible show InvEndN _ _ _ _ _ _ _); refine stop_here ?_)) | walk1 | (dsimp only; walk1) | (leave1; walk_say "STEP leave1"; try dsimp only) | fail "no step"))
        all_goals (refine Stop.of ?_; rename News _ _ _ _ => nN; rename Fr _ _ _ _ => nF; exact turn_end ⟨q, l, p + 1, i + 1, _, _, _, _, vs, ns, ep⟩ nF nN led_head led_tail rfl ⟨rfl, rfl, rfl, rfl, rfl, rfl, trivial⟩ (a2b_eq hI hst.out hp.out hi.out hfine.out))
      · have hst2 := hst' rfl
        clear hst'
        (repeat' (first | (k_unfold; (try dsimp only)) | (first | with_reducible ((with_reducible show wpAny _ _ (leaving _ (Value.ref _)) _ _ _); (k_here; (refine' leave_raiseS (by assumption) (by assumption) (by assumption) (by k_asm) ?_; k_whole; intro h' t' RS' R' U'; (try dsimp only at RS' U' ⊢)))) | with_reducible ((with_reducible show wpAny _ _ (pyIter (Value.bytes _ _)) _ _ _); refine stop_here ?_) | with_reducible ((with_reducible show wpAny _ _ (exec (Stmt.For (Expr.Name _ _) (Expr.Name _ _) (List.cons _ _) [] _) _) _ _ _); (k_here; (rename Fr _ _ _ _ => lF'); (with_unfolding_all refine' For_invVF lF' (by exact rfl) (by exact rfl) ?_; k_whole))) | with_reducible ((with_reducible show wpAny _ _ (call (Value.ref _) _ _) _ _ _); (k_here; first | ((with_reducible show wpAny _ _ (call (Value.ref 117) _ _) _ _ _); k_dflt (refine' b64_value_use (by k_asm) (by k_asm) (by k_asm) (by k_asm) (by k_asm) (by exact rfl) (by exact rfl) (by exact rfl) (by exact rfl) (by exact Nat.le_of_ble_eq_true rfl) (by exact Nat.le_of_ble_eq_true rfl) ?_; k_whole; intro t9 h9 tk9 F9 N9; (try dsimp only); (try k_sweep))) | ((with_reducible show wpAny _ _ (call (Value.ref 110) _ _) _ _ _); k_dflt (refine' truth_use (by k_asm) (by k_asm) (by k_asm) (by k_asm) (by k_asm) (by exact rfl) (by exact rfl) (by exact rfl) (by exact rfl) (by exact Nat.le_of_ble_eq_true rfl) (by exact Nat.le_of_ble_eq_true rfl) ?_; k_whole; intro h9 tk9 F9 N9; (try dsimp only); (try k_sweep))) | ((with_reducible show wpAny _ _ (call (Value.ref 96) _ _) _ _ _); k_dflt (refine' ascii_buffer_use (by k_asm) (by k_asm) (by k_asm) (by k_asm) (by k_asm) (by exact rfl) (by exact rfl) (by exact rfl) (by exact rfl) (by exact Nat.le_of_ble_eq_true rfl) (by exact Nat.le_of_ble_eq_true rfl) ?_; k_whole; intro h9 tk9 F9 N9; (try dsimp only); (try k_sweep))))) | with_reducible ((with_reducible show ite _ _ _); first | (refine ite_pos (by ((try simp only [decide_eq_true_eq, beq_iff_eq, bne_iff_ne, ne_eq, Bool.not_eq_true']); omega)) ?_; walk_say "m ite +") | (refine ite_neg (by ((try simp only [decide_eq_true_eq, beq_iff_eq, bne_iff_ne, ne_eq, Bool.not_eq_true']); omega)) ?_; walk_say "m ite -")) | with_reducible ((with_reducible show InvEndN _ _ _ _ _ _ _); refine stop_here ?_)) | walk1 | (dsimp only; walk1) | (leave1; walk_say "STEP leave1"; try dsimp only) | fail "no step"))
        all_goals (refine Stop.of ?_; rename News _ _ _ _ => nN; rename Fr _ _ _ _ => nF; exact turn_end ⟨q, l, p + 1, i + 1, _, _, _, _, vs, ns, ep⟩ nF nN led_head led_tail rfl ⟨rfl, rfl, rfl, rfl, rfl, rfl, trivial⟩ (a2b_eq hI hst.out hp.out hi.out hfine.out))
    · obtain ⟨hpre, hnx, hsub⟩ := hsp2 hn
      have hp0 : p = 0 := by rw [hp.out, List.count_eq_zero_of_not_mem hpre]; rfl
      clear hsp1 hsp2
      replace hpre := Hid.mk hpre
      replace hnx := Hid.mk hnx
      replace hsub := Hid.mk hsub
      (repeat' (first | (k_unfold; (try dsimp only)) | (first | with_reducible ((with_reducible show wpAny _ _ (leaving _ (Value.ref _)) _ _ _); (k_here; (refine' leave_raiseS (by assumption) (by assumption) (by assumption) (by k_asm) ?_; k_whole; intro h' t' RS' R' U'; (try dsimp only at RS' U' ⊢)))) | with_reducible ((with_reducible show wpAny _ _ (pyIter (Value.bytes _ _)) _ _ _); refine stop_here ?_) | with_reducible ((with_reducible show wpAny _ _ (exec (Stmt.For (Expr.Name _ _) (Expr.Name _ _) (List.cons _ _) [] _) _) _ _ _); (k_here; (rename Fr _ _ _ _ => lF'); (with_unfolding_all refine' For_invVF lF' (by exact rfl) (by exact rfl) ?_; k_whole))) | with_reducible ((with_reducible show wpAny _ _ (call (Value.ref _) _ _) _ _ _); (k_here; first | ((with_reducible show wpAny _ _ (call (Value.ref 117) _ _) _ _ _); k_dflt (refine' b64_value_use (by k_asm) (by k_asm) (by k_asm) (by k_asm) (by k_asm) (by exact rfl) (by exact rfl) (by exact rfl) (by exact rfl) (by exact Nat.le_of_ble_eq_true rfl) (by exact Nat.le_of_ble_eq_true rfl) ?_; k_whole; intro t9 h9 tk9 F9 N9; (try dsimp only); (try k_sweep))) | ((with_reducible show wpAny _ _ (call (Value.ref 110) _ _) _ _ _); k_dflt (refine' truth_use (by k_asm) (by k_asm) (by k_asm) (by k_asm) (by k_asm) (by exact rfl) (by exact rfl) (by exact rfl) (by exact rfl) (by exact Nat.le_of_ble_eq_true rfl) (by exact Nat.le_of_ble_eq_true rfl) ?_; k_whole; intro h9 tk9 F9 N9; (try dsimp only); (try k_sweep))) | ((with_reducible show wpAny _ _ (call (Value.ref 96) _ _) _ _ _); k_dflt (refine' ascii_buffer_use (by k_asm) (by k_asm) (by k_asm) (by k_asm) (by k_asm) (by exact rfl) (by exact rfl) (by exact rfl) (by exact rfl) (by exact Nat.le_of_ble_eq_true rfl) (by exact Nat.le_of_ble_eq_true rfl) ?_; k_whole; intro h9 tk9 F9 N9; (try dsimp only); (try k_sweep))))) | with_reducible ((with_reducible show ite _ _ _); first | (refine ite_pos (by ((try simp only [decide_eq_true_eq, beq_iff_eq, bne_iff_ne, ne_eq, Bool.not_eq_true']); omega)) ?_; walk_say "m ite +") | (refine ite_neg (by ((try simp only [decide_eq_true_eq, beq_iff_eq, bne_iff_ne, ne_eq, Bool.not_eq_true']); omega)) ?_; walk_say "m ite -")) | with_reducible ((with_reducible show InvEndN _ _ _ _ _ _ _); refine stop_here ?_)) | walk1 | (dsimp only; walk1) | (leave1; walk_say "STEP leave1"; try dsimp only) | fail "no step"))
      all_goals first
        | (rename RaisedS _ _ _ _ _ _ _ _ _ => rS
           rename Heap.UpToSlots _ _ => rU
           rename 64 ≤ b64v n => hbad
           rename strict = true => hst1
           refine herr.out _ ?_ _ _ _ _ _ (raised_drop rS) rU
           unfold a2bOut
           rw [if_pos ⟨hst1, List.any_eq_true.mpr ⟨n, hnx.out, by simpa using hbad⟩⟩]; done)
        | (refine Stop.of ?_
           rename News _ _ _ _ => nN
           rename Fr _ _ _ _ => nF
           try simp only [List.push_toArray] at nN
           first
             | (rename 64 ≤ b64v n => hbad
                rename strict = false => hsf
                exact turn_end ⟨q, l, p, i + 1, _, _, _, _, vs, ns, ep⟩ nF nN led_head led_tail rfl ⟨rfl, rfl, rfl, rfl, rfl, rfl, trivial⟩ (a2b_bad hI hst.out hp.out hi.out hn hbad hsf))
             | (rename ¬ 64 ≤ b64v n => hgd
                have hq0 : q = 0 := by omega
                exact turn_end ⟨1, b64v n, 0, i + 1, _, _, _, _, vs, ns, ep⟩ nF nN led_head led_tail rfl ⟨rfl, rfl, rfl, rfl, rfl, rfl, trivial⟩ (a2b_q0 hI hst.out hpre.out hi.out hfine.out hn hgd hq0))
             | (rename ¬ 64 ≤ b64v n => hgd
                have hq0 : q = 1 := by omega
                exact turn_end ⟨2, _, 0, i + 1, _, _, _, _, _, ns ++ [l * 4 + b64v n / 16], _⟩ nF nN led_head led_tail rfl ⟨rfl, rfl, rfl, rfl, rfl, rfl, trivial⟩ (a2b_q1 hI hst.out hpre.out hi.out hfine.out hn hgd hq0 hn0 hl0 hl1))
             | (rename ¬ 64 ≤ b64v n => hgd
                have hq0 : q = 2 := by omega
                exact turn_end ⟨3, _, 0, i + 1, _, _, _, _, _, ns ++ [l * 16 + b64v n / 4], _⟩ nF nN led_head led_tail rfl ⟨rfl, rfl, rfl, rfl, rfl, rfl, trivial⟩ (a2b_q2 hI hst.out hpre.out hi.out hfine.out hn hgd hq0 hn0 hl0 hl2.out))
             | (rename ¬ 64 ≤ b64v n => hgd
                have hq0 : q = 3 := by omega
                exact turn_end ⟨0, 0, 0, i + 1, _, _, _, _, _, ns ++ [l * 64 + b64v n], _⟩ nF nN led_head led_tail rfl ⟨rfl, rfl, rfl, rfl, rfl, rfl, trivial⟩ (a2b_q3 hI hst.out hpre.out hi.out hfine.out hn hgd hq0 hn0 hl0 hl3.out)))

  · rintro ⟨q, l, p, i, tq, tl, tp, ti, vs, ns, ep⟩ u h tk ⟨hI, hst, hp, hi, hfine⟩ kFr kNews
    have hge : ∀ c ∈ KBw.bInts bs, 0 ≤ c := fun c hc => (KBw.ints_in hc).1
    have hok := ok6 (vals (KBw.bInts bs)) (vals_in hge)
    rw [← hst] at hok
    obtain ⟨hq, hl0, hl1, hl2, hl3, hlen, hbts⟩ := hok
    have hvl := vals_len_le (KBw.bInts bs)
    rw [KBw.ints_length] at hvl
    have hI2 := hI.length
    dsimp only at *
    have hsz : vs.length ≤ 100 := by omega
    simp only [a2bLed] at kNews
    dsimp only [kstB, a2bPs] at kFr
    clear nF nN
    dsimp only [envOf] at kFr kNews
    have hq3 : 0 ≤ q ∧ q ≤ 3 := by omega
    have hp0 : 0 ≤ p := by omega
    replace hst := Hid.mk hst
    replace hp := Hid.mk hp
    replace hi := Hid.mk hi
    replace hfine := Hid.mk hfine
    replace hge := Hid.mk hge
    replace hlen := Hid.mk hlen
    have hbin : KBa.In ns := hbts
    replace hbts := Hid.mk hbts
    replace hq := Hid.mk hq
    replace hl2 := Hid.mk hl2
    replace hl3 := Hid.mk hl3
    replace hvl := Hid.mk hvl
    (repeat' (first | (k_unfold; (try dsimp only)) | (first | with_reducible ((with_reducible show wpAny _ _ (leaving _ (Value.ref _)) _ _ _); (k_here; (refine' leave_raiseS (by assumption) (by assumption) (by assumption) (by k_asm) ?_; k_whole; intro h' t' RS' R' U'; (try dsimp only at RS' U' ⊢)))) | with_reducible ((with_reducible show wpAny _ _ (pyIter (Value.bytes _ _)) _ _ _); refine stop_here ?_) | with_reducible ((with_reducible show wpAny _ _ (exec (Stmt.For (Expr.Name _ _) (Expr.Name _ _) (List.cons _ _) [] _) _) _ _ _); (k_here; (rename Fr _ _ _ _ => lF'); (with_unfolding_all refine' For_invVF lF' (by exact rfl) (by exact rfl) ?_; k_whole))) | with_reducible ((with_reducible show wpAny _ _ (call (Value.ref _) _ _) _ _ _); (k_here; first | ((with_reducible show wpAny _ _ (call (Value.ref 117) _ _) _ _ _); k_dflt (refine' b64_value_use (by k_asm) (by k_asm) (by k_asm) (by k_asm) (by k_asm) (by exact rfl) (by exact rfl) (by exact rfl) (by exact rfl) (by exact Nat.le_of_ble_eq_true rfl) (by exact Nat.le_of_ble_eq_true rfl) ?_; k_whole; intro t9 h9 tk9 F9 N9; (try dsimp only); (try k_sweep))) | ((with_reducible show wpAny _ _ (call (Value.ref 110) _ _) _ _ _); k_dflt (refine' truth_use (by k_asm) (by k_asm) (by k_asm) (by k_asm) (by k_asm) (by exact rfl) (by exact rfl) (by exact rfl) (by exact rfl) (by exact Nat.le_of_ble_eq_true rfl) (by exact Nat.le_of_ble_eq_true rfl) ?_; k_whole; intro h9 tk9 F9 N9; (try dsimp only); (try k_sweep))) | ((with_reducible show wpAny _ _ (call (Value.ref 96) _ _) _ _ _); k_dflt (refine' ascii_buffer_use (by k_asm) (by k_asm) (by k_asm) (by k_asm) (by k_asm) (by exact rfl) (by exact rfl) (by exact rfl) (by exact rfl) (by exact Nat.le_of_ble_eq_true rfl) (by exact Nat.le_of_ble_eq_true rfl) ?_; k_whole; intro h9 tk9 F9 N9; (try dsimp only); (try k_sweep))))) | with_reducible ((with_reducible show ite _ _ _); first | (refine ite_pos (by ((try simp only [decide_eq_true_eq, beq_iff_eq, bne_iff_ne, ne_eq, Bool.not_eq_true']); omega)) ?_; walk_say "m ite +") | (refine ite_neg (by ((try simp only [decide_eq_true_eq, beq_iff_eq, bne_iff_ne, ne_eq, Bool.not_eq_true']); omega)) ?_; walk_say "m ite -")) | with_reducible ((with_reducible show InvEndN _ _ _ _ _ _ _); refine stop_here ?_)) | walk1 | (dsimp only; walk1) | (leave1; walk_say "STEP leave1"; try dsimp only) | fail "no step"))
    all_goals (
      have hds := hds.out
      have hx := hx.out
      have hfine := a2b_fine hds hx hfine.out
      have hst := hst.out
      have hq := hq.out
      have hlen := hlen.out
      have hp := hp.out
      rw [hds, vals_pads] at hst hq hlen
      rw [hds, count_pads hx] at hp)
    all_goals first
      | (rename RaisedS _ _ _ _ _ _ _ _ _ => rS
         rename Heap.UpToSlots _ _ => rU
         rename q = 1 => hq1
         exact herr.out _ (a2bOut_inv hfine (by omega) hlen) _ _ _ _ _ (raised_drop rS) rU)
      | (rename RaisedS _ _ _ _ _ _ _ _ _ => rS
         rename Heap.UpToSlots _ _ => rU
         rename q + p < 4 => hq1
         exact herr.out _ (a2bOut_pad hfine (by omega) (by omega)) _ _ _ _ _ (raised_drop rS) rU)
      | ((try k_unfold)
         dsimp only
         rename Fr _ _ _ _ => nF
         have e : ns = (fold6 (vals xs)).2.2 := by rw [← hst]
         rw [e]
         exact hret.out _ (a2bOut_ok hfine (by omega) (by omega)) _ _ _ nF.keep)
end
section
def b64codes : List Int := [65, 66, 67, 68, 69, 70, 71, 72, 73, 74, 75, 76, 77, 78, 79, 80, 81, 82, 83, 84, 85, 86, 87, 88, 89, 90, 97, 98, 99, 100, 101, 102, 103, 104, 105, 106, 107, 108, 109, 110, 111, 112, 113, 114, 115, 116, 117, 118, 119, 120, 121, 122, 48, 49, 50, 51, 52, 53, 54, 55, 56, 57, 43, 47]
def b64arr : Array UInt8 := #[65, 66, 67, 68, 69, 70, 71, 72, 73, 74, 75, 76, 77, 78, 79, 80, 81, 82, 83, 84, 85, 86, 87, 88, 89, 90, 97, 98, 99, 100, 101, 102, 103, 104, 105, 106, 107, 108, 109, 110, 111, 112, 113, 114, 115, 116, 117, 118, 119, 120, 121, 122, 48, 49, 50, 51, 52, 53, 54, 55, 56, 57, 43, 47]
def b64c (v : Int) : Int := b64codes.getD v.toNat 0
theorem b64arr_ints : KBw.bInts b64arr = b64codes := by decide +kernel
theorem b64c_in (v : Int) : 0 ≤ b64c v ∧ b64c v < 256 := KBw.getD_in (ks := b64codes) (by decide +kernel)

theorem b64_item {prog : Program} {w : World} {A : Around} {E : Value → Shared → Prop} {s : Shared} {t ui : Tok} {x : Int} {value slice : Expr} {Q : Value → Shared → Prop}
    (h : ∀ t' k, Q (.int (b64c (x % 64)) t') { s with toks := k })
    (hs : subscripted slice false (.bytes b64arr t) (.int (Builtin.bitAnd x 63) ui) = operate [.bytes b64arr t, .int (Builtin.bitAnd x 63) ui] (getItem (.bytes b64arr t) (.int (Builtin.bitAnd x 63) ui)))
    (ht : ∀ r, letTemporaryGo value (.bytes b64arr t) r = pure ()) : wpAny (model prog w) A (subscriptTail value slice (.bytes b64arr t) (.int (Builtin.bitAnd x 63) ui)) Q E s := by
  refine KBw.item_K b64arr_ints (by decide) (by rw [bitAnd_m6]; omega) (by rw [bitAnd_m6]; show x % 64 < 64; omega) (fun t' k _ _ => ?_) hs ht
  rw [bitAnd_m6]
  exact h t' k

abbrev StE := Int × Int × List Int
def estp (c : StE) (b : Int) : StE :=
  if c.1 = 0 then (2, b % 4, c.2.2 ++ [b / 4])
  else if c.1 = 2 then (4, b % 16, c.2.2 ++ [c.2.1 * 16 + b / 16])
  else (0, 0, c.2.2 ++ [c.2.1 * 4 + b / 64, b % 64])
def efold (bs : List Int) : StE := bs.foldl estp (0, 0, [])
theorem efold_snoc (bs : List Int) (b : Int) : efold (bs ++ [b]) = estp (efold bs) b := by simp [efold, List.foldl_append]

structure B2A where
  lb : Int
  lc : Int
  tb : Tok
  tc : Tok
  vs : List Value
  ns : List Int
  ep : Nat
abbrev b2aLed (D : Addr) (c : B2A) : List (Addr × Obj) := [(D, W.listOf c.vs.toArray c.ep)]
abbrev b2aPs (D : Addr) (c : B2A) : List (Str × Value) := [(Str.ofString "out", .ref D), (Str.ofString "newline", .bool false), (Str.ofString "leftbits", .int c.lb c.tb), (Str.ofString "leftchar", .int c.lc c.tc)]
structure B2aP (pre : List Int) (c : B2A) : Prop where
  hints : IntsAre c.vs c.ns
  hlen : c.ns.length ≤ 2 * pre.length
  hlb : c.lb = 0 ∨ c.lb = 2 ∨ c.lb = 4
  hlc : 0 ≤ c.lc ∧ c.lc < 65536
  hst : ∃ pend out, efold pre = (c.lb, pend, out) ∧ c.ns = out.map b64c ∧ (c.lb = 2 → c.lc % 4 = pend) ∧ (c.lb = 4 → c.lc % 16 = pend)

theorem or8 {a b : Int} (h0 : 0 ≤ a) (h1 : a < 65536) (h2 : 0 ≤ b) (h3 : b < 256) : Builtin.bitOr (a * 2 ^ Int.toNat 8) b = a * 256 + b := by
  have e : Builtin.bitOr (a * 2 ^ Int.toNat 8) b = a * 256 + b - Builtin.bitAnd (a * 256) b := by
    have h := bitXor_and (a * 256) b
    have h' : Builtin.bitXor (a * 256) b = Builtin.bitOr (a * 256) b - Builtin.bitAnd (a * 256) b := rfl
    have : (a * 2 ^ Int.toNat 8) = a * 256 := by rw [show ((2 : Int) ^ Int.toNat 8) = 256 from rfl]
    rw [this]; omega
  have z : Builtin.bitAnd (a * 256) b = 0 := by
    have n0 : 0 ≤ a * 256 := by omega
    unfold Builtin.bitAnd
    rw [decide_eq_true n0, decide_eq_true h2]
    show (((a * 256).toNat &&& b.toNat : Nat) : Int) = 0
    have e1 : (a * 256).toNat = 2 ^ 8 * a.toNat := by omega
    rw [e1, Nat.and_comm]
    have : b.toNat < 2 ^ 8 := by omega
    have hb : b.toNat &&& 2 ^ 8 * a.toNat = 0 := by
      apply Nat.eq_of_testBit_eq
      intro i
      rw [Nat.testBit_and, Nat.testBit_two_pow_mul, Nat.zero_testBit]
      by_cases hi : 8 ≤ i
      · have : b.toNat.testBit i = false := Nat.testBit_lt_two_pow (Nat.lt_of_lt_of_le this (Nat.pow_le_pow_right (by decide) hi))
        simp [this]
      · simp [hi]
    rw [hb]; rfl
  omega
/-- the two bytes that the loop keeps -/
theorem lc_next {lc n : Int} (h0 : 0 ≤ lc ∧ lc < 65536) (h2 : 0 ≤ n) (h3 : n < 256) : Builtin.bitAnd (Builtin.bitOr (lc * 2 ^ Int.toNat 8) n) 65535 = (lc * 256 + n) % 65536 := by
  rw [or8 h0.1 h0.2 h2 h3, bitAnd_m16]
section
variable {pre : List Int} {lc n : Int} {vs : List Value} {ns : List Int} {ep : Nat} {t1 t2 u1 u2 : Tok}
theorem b2a_l0 (h : B2aP pre ⟨0, lc, u1, u2, vs, ns, ep⟩) (hn0 : 0 ≤ n) (hn1 : n < 256) {v1 v2 : Tok} {ep' : Nat} :
    B2aP (pre ++ [n]) ⟨0 + 8 - 6, Builtin.bitAnd (Builtin.bitOr (lc * 2 ^ Int.toNat 8) n) 65535, v1, v2, vs ++ [.int (b64c ((Builtin.bitAnd (Builtin.bitOr (lc * 2 ^ Int.toNat 8) n) 65535).fdiv (2 ^ (0 + 8 - 6 : Int).toNat) % 64)) t1], ns ++ [b64c (n / 4)], ep'⟩ := by
  obtain ⟨hI, hlen, _, hlc, pend, out, h1, h2, _, _⟩ := h
  dsimp only at *
  rw [lc_next hlc hn0 hn1]
  have e : ((lc * 256 + n) % 65536).fdiv (2 ^ (0 + 8 - 6 : Int).toNat) % 64 = n / 4 := by
    rw [show ((2 : Int) ^ (0 + 8 - 6 : Int).toNat) = 4 from rfl, Int.fdiv_eq_ediv_of_nonneg _ (by decide)]; omega
  rw [e]
  refine ⟨IntsAre.append hI (.cons _ _ .nil), by simp only [List.length_append, List.length_cons, List.length_nil]; omega, .inr (.inl rfl), by dsimp only; omega, n % 4, out ++ [n / 4], ?_, by simp [h2], fun _ => by dsimp only; omega, fun z => by cases z⟩
  rw [efold_snoc, h1]; rfl
theorem b2a_l2 (h : B2aP pre ⟨2, lc, u1, u2, vs, ns, ep⟩) (hn0 : 0 ≤ n) (hn1 : n < 256) {v1 v2 : Tok} {ep' : Nat} :
    B2aP (pre ++ [n]) ⟨2 + 8 - 6, Builtin.bitAnd (Builtin.bitOr (lc * 2 ^ Int.toNat 8) n) 65535, v1, v2, vs ++ [.int (b64c ((Builtin.bitAnd (Builtin.bitOr (lc * 2 ^ Int.toNat 8) n) 65535).fdiv (2 ^ (2 + 8 - 6 : Int).toNat) % 64)) t1], ns ++ [b64c ((lc % 4) * 16 + n / 16)], ep'⟩ := by
  obtain ⟨hI, hlen, _, hlc, pend, out, h1, h2, h3, _⟩ := h
  dsimp only at *
  have h3 := h3 rfl
  rw [lc_next hlc hn0 hn1]
  have e : ((lc * 256 + n) % 65536).fdiv (2 ^ (2 + 8 - 6 : Int).toNat) % 64 = (lc % 4) * 16 + n / 16 := by
    rw [show ((2 : Int) ^ (2 + 8 - 6 : Int).toNat) = 16 from rfl, Int.fdiv_eq_ediv_of_nonneg _ (by decide)]; omega
  rw [e]
  refine ⟨IntsAre.append hI (.cons _ _ .nil), by simp only [List.length_append, List.length_cons, List.length_nil]; omega, .inr (.inr rfl), by dsimp only; omega, n % 16, out ++ [pend * 16 + n / 16], ?_, by simp [h2, h3], (fun z => by cases z), fun _ => by dsimp only; omega⟩
  rw [efold_snoc, h1]; rfl
theorem b2a_l4 (h : B2aP pre ⟨4, lc, u1, u2, vs, ns, ep⟩) (hn0 : 0 ≤ n) (hn1 : n < 256) {v1 v2 : Tok} {ep' : Nat} :
    B2aP (pre ++ [n]) ⟨4 + 8 - 6 - 6, Builtin.bitAnd (Builtin.bitOr (lc * 2 ^ Int.toNat 8) n) 65535, v1, v2, vs ++ [.int (b64c ((Builtin.bitAnd (Builtin.bitOr (lc * 2 ^ Int.toNat 8) n) 65535).fdiv (2 ^ (4 + 8 - 6 : Int).toNat) % 64)) t1] ++ [.int (b64c ((Builtin.bitAnd (Builtin.bitOr (lc * 2 ^ Int.toNat 8) n) 65535).fdiv (2 ^ (4 + 8 - 6 - 6 : Int).toNat) % 64)) t2], ns ++ [b64c ((lc % 16) * 4 + n / 64)] ++ [b64c (n % 64)], ep'⟩ := by
  obtain ⟨hI, hlen, _, hlc, pend, out, h1, h2, _, h3⟩ := h
  dsimp only at *
  have h3 := h3 rfl
  rw [lc_next hlc hn0 hn1]
  have e : ((lc * 256 + n) % 65536).fdiv (2 ^ (4 + 8 - 6 : Int).toNat) % 64 = (lc % 16) * 4 + n / 64 := by
    rw [show ((2 : Int) ^ (4 + 8 - 6 : Int).toNat) = 64 from rfl, Int.fdiv_eq_ediv_of_nonneg _ (by decide)]; omega
  have e2 : ((lc * 256 + n) % 65536).fdiv (2 ^ (4 + 8 - 6 - 6 : Int).toNat) % 64 = n % 64 := by
    rw [show ((2 : Int) ^ (4 + 8 - 6 - 6 : Int).toNat) = 1 from rfl, Int.fdiv_eq_ediv_of_nonneg _ (by decide)]; omega
  rw [e, e2]
  refine ⟨IntsAre.append (IntsAre.append hI (.cons _ _ .nil)) (.cons _ _ .nil), by simp only [List.length_append, List.length_cons, List.length_nil]; omega, .inl rfl, by dsimp only; omega, 0, out ++ [pend * 4 + n / 64, n % 64], ?_, by simp [h2, h3], (fun z => by cases z), (fun z => by cases z)⟩
  rw [efold_snoc, h1]; rfl
end
end
section
theorem b2a_ok {w : World} {loose : List Str} {mean : ExcName → Option Value} {mg mb : Str → Option Value} {base : Heap} {outer : List Env} {gd : Option (List Code)} {s : Shared} {Q E : Value → Shared → Prop} {bs : Array UInt8} {t : Tok}
    (H : Here w loose mean mg mb (Aat 890 8900 outer gd) base outer s.heap) (hbs : bs.size ≤ 100) (hlast : (efold (KBw.bInts bs)).1 = 0)
    (hret : ∀ h' tk' t', Keeps s.heap h' → Q (.bytes (byteArr ((efold (KBw.bInts bs)).2.2.map b64c)) t') { s with heap := h', toks := tk' }) :
    wpAny (model Challenge.rw_qh0096_01.row.prog w) (Aat 890 8900 outer gd) (call (.ref 133) [.bytes bs t] [(Str.ofString "newline", .bool false)]) Q E s := by
  replace hret := Hid.mk hret
  replace hlast := Hid.mk hlast
  have X := H.X
  revert X; k_fill; intro X
  refine' enter [(Str.ofString "data", .bytes bs t), (Str.ofString "newline", .bool false)] H ?k6 ?k7 ?k8 ?k9 ?kB ?_ ?c2 ?c3 ?c4 ?c5
  (k_dflt ((case k6 => k_is); (case k7 => k_is); (case k8 => k_room); (case k9 => first | exact BindsTo.of_eq rfl | exact binds_K (by k_in) rfl (by k_is) rfl rfl rfl); (case c5 => decide); (case kB => exact locs rfl); (case c2 => exact rfl); (case c3 => exact rfl); (case c4 => exact rfl)))
  clear H X
  intro L' h' tk' F' N' B' X' T'
  try dsimp only
  k_fold
  (repeat' (first | (k_unfold; (try dsimp only)) | (first | with_reducible (k_here; (with_reducible show wpAny _ _ (subscriptTail _ _ (Value.bytes _ _) (Value.int (Builtin.bitAnd _ 63) _)) _ _ _); k_dflt (refine' b64_item ?_ (by with_unfolding_all rfl) (by intro _; with_unfolding_all rfl); intro t9 k9; (try dsimp only))) | with_reducible ((with_reducible show wpAny _ _ (pyIter (Value.bytes _ _)) _ _ _); refine stop_here ?_) | with_reducible ((with_reducible show wpAny _ _ (exec (Stmt.For (Expr.Name _ _) (Expr.Name _ _) (List.cons _ _) [] _) _) _ _ _); (k_here; (rename Fr _ _ _ _ => lF'); (with_unfolding_all refine' For_invVF lF' (by exact rfl) (by exact rfl) ?_; k_whole))) | with_reducible ((with_reducible show wpAny _ _ (call (Value.ref _) _ _) _ _ _); (k_here; first | ((with_reducible show wpAny _ _ (call (Value.ref 110) _ _) _ _ _); k_dflt (refine' truth_use (by k_asm) (by k_asm) (by k_asm) (by k_asm) (by k_asm) (by exact rfl) (by exact rfl) (by exact rfl) (by exact rfl) (by exact Nat.le_of_ble_eq_true rfl) (by exact Nat.le_of_ble_eq_true rfl) ?_; k_whole; intro h9 tk9 F9 N9; (try dsimp only); (try k_sweep))) | ((with_reducible show wpAny _ _ (call (Value.ref 103) _ _) _ _ _); k_dflt (refine' buffer_use (by k_asm) (by k_asm) (by k_asm) (by k_asm) (by k_asm) (by exact rfl) (by exact rfl) (by exact rfl) (by exact rfl) (by exact Nat.le_of_ble_eq_true rfl) (by exact Nat.le_of_ble_eq_true rfl) ?_; k_whole; intro h9 tk9 F9 N9; (try dsimp only); (try k_sweep))))) | with_reducible ((with_reducible show ite _ _ _); first | (refine ite_pos (by ((try simp only [decide_eq_true_eq, beq_iff_eq, bne_iff_ne, ne_eq, Bool.not_eq_true']); omega)) ?_; walk_say "m ite +") | (refine ite_neg (by ((try simp only [decide_eq_true_eq, beq_iff_eq, bne_iff_ne, ne_eq, Bool.not_eq_true']); omega)) ?_; walk_say "m ite -")) | with_reducible ((with_reducible show InvEndN _ _ _ _ _ _ _); refine stop_here ?_)) | walk1 | (dsimp only; walk1) | (leave1; walk_say "STEP leave1"; try dsimp only) | fail "no step"))
  refine Stop.of ?_
  rename News _ _ _ [(_, _)] => nN
  rename Fr _ _ _ _ => nF
  refine for_bytes (b2aLed _) (b2aPs _) B2aP ⟨0, 0, _, _, [], [], 0⟩ rfl nF nN ⟨rfl, rfl, rfl, rfl, trivial⟩ ?_ ?_ ?_
  · exact ⟨.nil, by simp, .inl rfl, by simp, 0, [], rfl, rfl, by simp, by simp⟩
  · rintro ⟨lb, lc, tb, tc, vs, ns, ep⟩ pre n post t u h tk own hks hn0 hn1 hoff hP kFr kNews
    have kL := congrArg List.length hks
    rw [KBw.ints_length] at kL
    simp only [List.length_append, List.length_cons] at kL
    have hI := hP.hints
    have hI2 := hI.length
    have hlen := hP.hlen
    have hlb := hP.hlb
    have hlc := hP.hlc
    simp only [b2aLed, List.map_cons, List.map_nil] at hoff
    dsimp only at hI hI2 hlen hlb hlc
    simp only [b2aLed, List.nil_append, List.cons_append, List.append_nil] at kNews
    dsimp only [kstB, b2aPs] at kFr
    clear nF nN
    dsimp only [envOf] at kFr kNews
    have hsz : vs.length ≤ 200 := by omega
    replace hks := Hid.mk hks
    replace kL := Hid.mk kL
    replace hlen := Hid.mk hlen
    replace hP := Hid.mk hP
    rcases hlb with rfl | rfl | rfl
    · (repeat' (first | (k_unfold; (try dsimp only)) | (first | with_reducible (k_here; (with_reducible show wpAny _ _ (subscriptTail _ _ (Value.bytes _ _) (Value.int (Builtin.bitAnd _ 63) _)) _ _ _); k_dflt (refine' b64_item ?_ (by with_unfolding_all rfl) (by intro _; with_unfolding_all rfl); intro t9 k9; (try dsimp only))) | with_reducible ((with_reducible show wpAny _ _ (pyIter (Value.bytes _ _)) _ _ _); refine stop_here ?_) | with_reducible ((with_reducible show wpAny _ _ (exec (Stmt.For (Expr.Name _ _) (Expr.Name _ _) (List.cons _ _) [] _) _) _ _ _); (k_here; (rename Fr _ _ _ _ => lF'); (with_unfolding_all refine' For_invVF lF' (by exact rfl) (by exact rfl) ?_; k_whole))) | with_reducible ((with_reducible show wpAny _ _ (call (Value.ref _) _ _) _ _ _); (k_here; first | ((with_reducible show wpAny _ _ (call (Value.ref 110) _ _) _ _ _); k_dflt (refine' truth_use (by k_asm) (by k_asm) (by k_asm) (by k_asm) (by k_asm) (by exact rfl) (by exact rfl) (by exact rfl) (by exact rfl) (by exact Nat.le_of_ble_eq_true rfl) (by exact Nat.le_of_ble_eq_true rfl) ?_; k_whole; intro h9 tk9 F9 N9; (try dsimp only); (try k_sweep))) | ((with_reducible show wpAny _ _ (call (Value.ref 103) _ _) _ _ _); k_dflt (refine' buffer_use (by k_asm) (by k_asm) (by k_asm) (by k_asm) (by k_asm) (by exact rfl) (by exact rfl) (by exact rfl) (by exact rfl) (by exact Nat.le_of_ble_eq_true rfl) (by exact Nat.le_of_ble_eq_true rfl) ?_; k_whole; intro h9 tk9 F9 N9; (try dsimp only); (try k_sweep))))) | with_reducible ((with_reducible show ite _ _ _); first | (refine ite_pos (by ((try simp only [decide_eq_true_eq, beq_iff_eq, bne_iff_ne, ne_eq, Bool.not_eq_true']); omega)) ?_; walk_say "m ite +") | (refine ite_neg (by ((try simp only [decide_eq_true_eq, beq_iff_eq, bne_iff_ne, ne_eq, Bool.not_eq_true']); omega)) ?_; walk_say "m ite -")) | with_reducible ((with_reducible show InvEndN _ _ _ _ _ _ _); refine stop_here ?_)) | walk1 | (dsimp only; walk1) | (leave1; walk_say "STEP leave1"; try dsimp only) | fail "no step"))
      refine Stop.of ?_
      rename News _ _ _ _ => nN
      rename Fr _ _ _ _ => nF
      simp only [List.push_toArray] at nN
      exact turn_end ⟨_, _, _, _, _, ns ++ [b64c (n / 4)], _⟩ nF nN led_head led_tail rfl ⟨rfl, rfl, rfl, rfl, trivial⟩ (b2a_l0 hP.out hn0 hn1)
    · (repeat' (first | (k_unfold; (try dsimp only)) | (first | with_reducible (k_here; (with_reducible show wpAny _ _ (subscriptTail _ _ (Value.bytes _ _) (Value.int (Builtin.bitAnd _ 63) _)) _ _ _); k_dflt (refine' b64_item ?_ (by with_unfolding_all rfl) (by intro _; with_unfolding_all rfl); intro t9 k9; (try dsimp only))) | with_reducible ((with_reducible show wpAny _ _ (pyIter (Value.bytes _ _)) _ _ _); refine stop_here ?_) | with_reducible ((with_reducible show wpAny _ _ (exec (Stmt.For (Expr.Name _ _) (Expr.Name _ _) (List.cons _ _) [] _) _) _ _ _); (k_here; (rename Fr _ _ _ _ => lF'); (with_unfolding_all refine' For_invVF lF' (by exact rfl) (by exact rfl) ?_; k_whole))) | with_reducible ((with_reducible show wpAny _ _ (call (Value.ref _) _ _) _ _ _); (k_here; first | ((with_reducible show wpAny _ _ (call (Value.ref 110) _ _) _ _ _); k_dflt (refine' truth_use (by k_asm) (by k_asm) (by k_asm) (by k_asm) (by k_asm) (by exact rfl) (by exact rfl) (by exact rfl) (by exact rfl) (by exact Nat.le_of_ble_eq_true rfl) (by exact Nat.le_of_ble_eq_true rfl) ?_; k_whole; intro h9 tk9 F9 N9; (try dsimp only); (try k_sweep))) | ((with_reducible show wpAny _ _ (call (Value.ref 103) _ _) _ _ _); k_dflt (refine' buffer_use (by k_asm) (by k_asm) (by k_asm) (by k_asm) (by k_asm) (by exact rfl) (by exact rfl) (by exact rfl) (by exact rfl) (by exact Nat.le_of_ble_eq_true rfl) (by exact Nat.le_of_ble_eq_true rfl) ?_; k_whole; intro h9 tk9 F9 N9; (try dsimp only); (try k_sweep))))) | with_reducible ((with_reducible show ite _ _ _); first | (refine ite_pos (by ((try simp only [decide_eq_true_eq, beq_iff_eq, bne_iff_ne, ne_eq, Bool.not_eq_true']); omega)) ?_; walk_say "m ite +") | (refine ite_neg (by ((try simp only [decide_eq_true_eq, beq_iff_eq, bne_iff_ne, ne_eq, Bool.not_eq_true']); omega)) ?_; walk_say "m ite -")) | with_reducible ((with_reducible show InvEndN _ _ _ _ _ _ _); refine stop_here ?_)) | walk1 | (dsimp only; walk1) | (leave1; walk_say "STEP leave1"; try dsimp only) | fail "no step"))
      refine Stop.of ?_
      rename News _ _ _ _ => nN
      rename Fr _ _ _ _ => nF
      simp only [List.push_toArray] at nN
      exact turn_end ⟨_, _, _, _, _, ns ++ [b64c ((lc % 4) * 16 + n / 16)], _⟩ nF nN led_head led_tail rfl ⟨rfl, rfl, rfl, rfl, trivial⟩ (b2a_l2 hP.out hn0 hn1)
    · (repeat' (first | (k_unfold; (try dsimp only)) | (first | with_reducible (k_here; (with_reducible show wpAny _ _ (subscriptTail _ _ (Value.bytes _ _) (Value.int (Builtin.bitAnd _ 63) _)) _ _ _); k_dflt (refine' b64_item ?_ (by with_unfolding_all rfl) (by intro _; with_unfolding_all rfl); intro t9 k9; (try dsimp only))) | with_reducible ((with_reducible show wpAny _ _ (pyIter (Value.bytes _ _)) _ _ _); refine stop_here ?_) | with_reducible ((with_reducible show wpAny _ _ (exec (Stmt.For (Expr.Name _ _) (Expr.Name _ _) (List.cons _ _) [] _) _) _ _ _); (k_here; (rename Fr _ _ _ _ => lF'); (with_unfolding_all refine' For_invVF lF' (by exact rfl) (by exact rfl) ?_; k_whole))) | with_reducible ((with_reducible show wpAny _ _ (call (Value.ref _) _ _) _ _ _); (k_here; first | ((with_reducible show wpAny _ _ (call (Value.ref 110) _ _) _ _ _); k_dflt (refine' truth_use (by k_asm) (by k_asm) (by k_asm) (by k_asm) (by k_asm) (by exact rfl) (by exact rfl) (by exact rfl) (by exact rfl) (by exact Nat.le_of_ble_eq_true rfl) (by exact Nat.le_of_ble_eq_true rfl) ?_; k_whole; intro h9 tk9 F9 N9; (try dsimp only); (try k_sweep))) | ((with_reducible show wpAny _ _ (call (Value.ref 103) _ _) _ _ _); k_dflt (refine' buffer_use (by k_asm) (by k_asm) (by k_asm) (by k_asm) (by k_asm) (by exact rfl) (by exact rfl) (by exact rfl) (by exact rfl) (by exact Nat.le_of_ble_eq_true rfl) (by exact Nat.le_of_ble_eq_true rfl) ?_; k_whole; intro h9 tk9 F9 N9; (try dsimp only); (try k_sweep))))) | with_reducible ((with_reducible show ite _ _ _); first | (refine ite_pos (by ((try simp only [decide_eq_true_eq, beq_iff_eq, bne_iff_ne, ne_eq, Bool.not_eq_true']); omega)) ?_; walk_say "m ite +") | (refine ite_neg (by ((try simp only [decide_eq_true_eq, beq_iff_eq, bne_iff_ne, ne_eq, Bool.not_eq_true']); omega)) ?_; walk_say "m ite -")) | with_reducible ((with_reducible show InvEndN _ _ _ _ _ _ _); refine stop_here ?_)) | walk1 | (dsimp only; walk1) | (leave1; walk_say "STEP leave1"; try dsimp only) | fail "no step"))
      refine Stop.of ?_
      rename News _ _ _ _ => nN
      rename Fr _ _ _ _ => nF
      simp only [List.push_toArray] at nN
      exact turn_end ⟨_, _, _, _, _, ns ++ [b64c ((lc % 16) * 4 + n / 64)] ++ [b64c (n % 64)], _⟩ nF nN led_head led_tail rfl ⟨rfl, rfl, rfl, rfl, trivial⟩ (b2a_l4 hP.out hn0 hn1)
  · rintro ⟨lb, lc, tb, tc, vs, ns, ep⟩ u h tk ⟨hI, hlen, hlb, hlc, pend, out, hst, hns, _, _⟩ kFr kNews
    dsimp only at *
    have hlb0 : lb = 0 := by have := hlast.out; rw [hst] at this; exact this
    subst hlb0
    rw [KBw.ints_length] at hlen
    have hI2 := hI.length
    have hsz : vs.length ≤ 200 := by omega
    have hbin : KBa.In ns := by
      rw [hns]; intro x hx
      obtain ⟨v, _, rfl⟩ := List.mem_map.mp hx
      exact b64c_in v
    simp only [b2aLed] at kNews
    dsimp only [kstB, b2aPs] at kFr
    clear nF nN
    dsimp only [envOf] at kFr kNews
    replace hst := Hid.mk hst
    replace hns := Hid.mk hns
    (repeat' (first | (k_unfold; (try dsimp only)) | (first | with_reducible (k_here; (with_reducible show wpAny _ _ (subscriptTail _ _ (Value.bytes _ _) (Value.int (Builtin.bitAnd _ 63) _)) _ _ _); k_dflt (refine' b64_item ?_ (by with_unfolding_all rfl) (by intro _; with_unfolding_all rfl); intro t9 k9; (try dsimp only))) | with_reducible ((with_reducible show wpAny _ _ (pyIter (Value.bytes _ _)) _ _ _); refine stop_here ?_) | with_reducible ((with_reducible show wpAny _ _ (exec (Stmt.For (Expr.Name _ _) (Expr.Name _ _) (List.cons _ _) [] _) _) _ _ _); (k_here; (rename Fr _ _ _ _ => lF'); (with_unfolding_all refine' For_invVF lF' (by exact rfl) (by exact rfl) ?_; k_whole))) | with_reducible ((with_reducible show wpAny _ _ (call (Value.ref _) _ _) _ _ _); (k_here; first | ((with_reducible show wpAny _ _ (call (Value.ref 110) _ _) _ _ _); k_dflt (refine' truth_use (by k_asm) (by k_asm) (by k_asm) (by k_asm) (by k_asm) (by exact rfl) (by exact rfl) (by exact rfl) (by exact rfl) (by exact Nat.le_of_ble_eq_true rfl) (by exact Nat.le_of_ble_eq_true rfl) ?_; k_whole; intro h9 tk9 F9 N9; (try dsimp only); (try k_sweep))) | ((with_reducible show wpAny _ _ (call (Value.ref 103) _ _) _ _ _); k_dflt (refine' buffer_use (by k_asm) (by k_asm) (by k_asm) (by k_asm) (by k_asm) (by exact rfl) (by exact rfl) (by exact rfl) (by exact rfl) (by exact Nat.le_of_ble_eq_true rfl) (by exact Nat.le_of_ble_eq_true rfl) ?_; k_whole; intro h9 tk9 F9 N9; (try dsimp only); (try k_sweep))))) | with_reducible ((with_reducible show ite _ _ _); first | (refine ite_pos (by ((try simp only [decide_eq_true_eq, beq_iff_eq, bne_iff_ne, ne_eq, Bool.not_eq_true']); omega)) ?_; walk_say "m ite +") | (refine ite_neg (by ((try simp only [decide_eq_true_eq, beq_iff_eq, bne_iff_ne, ne_eq, Bool.not_eq_true']); omega)) ?_; walk_say "m ite -")) | with_reducible ((with_reducible show InvEndN _ _ _ _ _ _ _); refine stop_here ?_)) | walk1 | (dsimp only; walk1) | (leave1; walk_say "STEP leave1"; try dsimp only) | fail "no step"))
    all_goals (
      (try k_unfold)
      dsimp only
      rename Fr _ _ _ _ => nF
      have e : ns = (efold (KBw.bInts bs)).2.2.map b64c := by rw [hst.out]; exact hns.out
      rw [e]
      exact hret.out _ _ _ nF.keep)
end
section
open PySem.Builtin
def mkTrans (f g : Array UInt8) : Array UInt8 := (f.toList.zip g.toList).foldl (fun t (p : UInt8 × UInt8) => t.setIfInBounds p.1.toNat p.2) ((Array.range 256).map (·.toUInt8))
def trans (t b : Array UInt8) : Array UInt8 := b.map fun c => t.getD c.toNat c

theorem slot_translate : Slot "bytes" "translate" "bytes.translate" :=
  .of (owner := "bytes") (n := "translate") (by rw [typeLookup_type, builtinLookup_eq_fast]; kernel_rfl) (by decide +kernel) (by decide +kernel) (by decide +kernel)
    (by first | exact .inl (by decide +kernel) | exact .inr (by decide +kernel)) (by rw [isSubtype_type]; kernel_rfl)
theorem type_translate : typeOf (.builtin "bytes.translate") = pure (.type "method_descriptor") := by show builtinType _ = _; rw [builtinType_eq_fast]; kernel_rfl
theorem entry_translate : entryFor table "bytes.translate" = some Builtin.«bytes.translate» := entryFor_of_tree (by kernel_rfl)
theorem args_translate (a b : Value) : argsOk "bytes.translate" ⟨[a, b], []⟩ := by unfold argsOk; kernel_rfl
theorem plain_maketrans : plainId "bytes.maketrans" = true := by decide +kernel
theorem entry_maketrans : entryFor table "bytes.maketrans" = some Builtin.«bytes.maketrans» := entryFor_of_tree (by kernel_rfl)
theorem chk_maketrans (a b : Value) : checkBuiltinCall "bytes.maketrans" ⟨[a, b], []⟩ = pure () := by kernel_rfl
theorem meta_bytes : typeOf (.type "bytes") = pure (.type "type") := by kernel_rfl
section
variable {prog : Program} {w : World} {A : Around} {E : Value → Shared → Prop} {s : Shared}
theorem call_static {id : String} {b : Builtin} {args : List Value} {Q : Value → Shared → Prop} (hp : plainId id = true) (hb : entryFor table id = some b) (hchk : checkBuiltinCall id ⟨args, []⟩ = pure ())
    (hc : wpAny (model prog w) A.in1 (b ⟨args, []⟩) (fun fin s' => ∃ v, fin = .done (.ret v) ∧ Q v s') E s) : wpAny (model prog w) A (call (.builtin id) args) Q E s := by
  refine wpAny_call (codeAny_call_builtin hp hb ?_)
  rw [hchk]
  exact wpAny_pure (wpAny_mono hc (fun fin s' h' => by obtain ⟨v, rfl, hv⟩ := h'; exact hv) fun _ _ h' => h')

theorem mkTrans_size (f g : Array UInt8) : (mkTrans f g).size = 256 := by
  have : ∀ (l : List (UInt8 × UInt8)) (t : Array UInt8), (l.foldl (fun t (p : UInt8 × UInt8) => t.setIfInBounds p.1.toNat p.2) t).size = t.size := by
    intro l
    induction l with
    | nil => intro t; rfl
    | cons p r ih => intro t; rw [List.foldl_cons, ih, Array.size_setIfInBounds]
  unfold mkTrans
  rw [this]; simp
theorem maketrans_call {f g : Array UInt8} {t u : Tok} {Q : Value → Shared → Prop} (hsz : f.size = g.size) (h : ∀ t' k, Q (.bytes (mkTrans f g) t') { s with toks := k }) :
    wpAny (model prog w) A (call (.builtin "bytes.maketrans") [.bytes f t, .bytes g u]) Q E s := by
  refine call_static plain_maketrans entry_maketrans (chk_maketrans _ _) ?_
  unfold «bytes.maketrans» Bytes.maketransM
  dsimp only
  refine wpAny_bind (wpAny_of_eq (a := ()) (by rfl) ?_)
  refine wpAny_bind (wpAny_of_eq (a := ()) (by rfl) ?_)
  refine wpAny_bind (wpAny_of_eq KBd.like_eq ?_)
  refine wpAny_bind (wpAny_of_eq KBd.like_eq ?_)
  have hne : (f.size != g.size) = false := by simp [hsz]
  simp only [hne, Bool.false_eq_true, if_false]
  refine wpAny_bind (wpAny_mkBytes (wpAny_pure ⟨_, rfl, ?_⟩) ?_)
  · exact h _ _
  · show (mkTrans f g).size ≤ _
    rw [mkTrans_size]; decide
theorem payload_eq {b : Array UInt8} {t : Tok} : Bytes.payload (.bytes b t) = pure b := rfl
theorem filter_none (b : Array UInt8) : b.filter (fun c => !(#[] : Array UInt8).contains c) = b := by
  simp
theorem translate_call {b tab : Array UInt8} {t u : Tok} {Q : Value → Shared → Prop} (hsz : tab.size = 256) (hb : b.size ≤ 16777216) (h : ∀ t' k, Q (.bytes (trans tab b) t') { s with toks := k }) :
    wpAny (model prog w) A (call (.builtin "bytes.translate") [.bytes b t, .bytes tab u]) Q E s := by
  refine wpAny_call_entry slot_translate (typeIs_bytes _ _ _) entry_translate ?_ (args_translate _ _)
  unfold «bytes.translate» Bytes.translateM
  dsimp only
  simp only [List.length_cons, List.length_nil, List.any_nil, Bool.false_eq_true, if_false]
  rw [if_neg (by decide)]
  rw [show (Value.bytes tab u == Value.none) = false from rfl]
  simp only [Bool.false_eq_true, if_false]
  refine wpAny_bind (wpAny_of_eq KBd.like_eq ?_)
  have hne : (tab.size != 256) = false := by simp [hsz]
  simp only [hne, Bool.false_eq_true, if_false]
  refine wpAny_bind (wpAny_pure ?_)
  refine wpAny_bind (wpAny_pure ?_)
  refine wpAny_bind (wpAny_of_eq payload_eq ?_)
  simp only [filter_none]
  split
  · rename_i e
    have e' : trans tab b = b := eq_of_beq e
    rw [e'] at h
    refine wpAny_bind (wpAny_rule ?_)
    exact wpAny_bind (wpAny_of_eq (a := .bytes b t) rfl (wpAny_pure ⟨_, rfl, h t s.toks⟩))
  · refine wpAny_bind (wpAny_mkBytes (wpAny_pure ⟨_, rfl, h _ _⟩) ?_)
    show (trans tab b).size ≤ _
    rw [sizeLine_eq]; simpa [trans] using hb
end
end
section
open PySem.Builtin
theorem ascii_fold (xs : List Nat) : ∀ out : Array UInt8, xs.foldl (fun acc y => acc ++ (_codecs.asciiCodec.bytesOf y).toArray) out = out ++ (xs.map (·.toUInt8)).toArray := by
  induction xs with
  | nil => intro out; simp
  | cons x r ih => intro out; rw [List.foldl_cons, ih]; simp [_codecs.asciiCodec]
theorem forIn_two {β : Type} (f : Nat → β → Sem (ForInStep β)) (b0 b1 : β) (h0 : ∀ i, f i b0 = pure (.yield b1)) (h1 : ∀ i, f i b1 = pure (.done b1)) :
    ∀ l : List Nat, l ≠ [] → forIn l b0 f = (pure b1 : Sem β)
  | [], h => absurd rfl h
  | [i], _ => by rw [List.forIn_cons, h0]; rfl
  | i :: j :: r, _ => by
    rw [List.forIn_cons, h0]
    show forIn (j :: r) b1 f = pure b1
    rw [List.forIn_cons, h1]; rfl
theorem ascii_narrow (id : String) (self : Value) (x : Str) (hx : ∀ c ∈ x.cps.toList, c < 128) (hsz : x.cps.size ≤ sizeLine) :
    _codecs.encodeNarrow id _codecs.asciiCodec none self x = pure (x.cps.map (·.toUInt8)) := by
  unfold _codecs.encodeNarrow
  obtain ⟨⟨cps⟩⟩ := x
  simp only [Str.length] at *
  rw [Std.Legacy.Range.forIn_eq_forIn_range']
  simp only [Std.Legacy.Range.size, Nat.sub_zero, Nat.add_sub_cancel, Nat.div_one]
  cases cps with
  | nil => simp
  | cons c r =>
    have hc : c < 128 := hx c (by simp)
    have hbad : _codecs.asciiCodec.bad c = false := by simp [_codecs.asciiCodec]; omega
    have hnone : (c :: r).toArray.findIdx? _codecs.asciiCodec.bad = none := by
      rw [Array.findIdx?_eq_none_iff]
      intro y hy
      have := hx y (by simpa using hy)
      simp [_codecs.asciiCodec]; omega
    have hfold := ascii_fold (c :: r) #[]
    rw [forIn_two (b1 := ((c :: r).length, ((c :: r).map (·.toUInt8)).toArray, {}))]
    · simp
    · intro i
      have hsz1 : ¬ ((#[] : Array UInt8).size > sizeLine) := by simp
      simp only [if_neg hsz1]
      simp only [List.getElem?_toArray, List.getElem?_cons_zero, hbad, Bool.not_false, if_true]
      have ext : (c :: r).toArray.extract 0 (c :: r).toArray.size = (c :: r).toArray := by simp
      have e1 : ((Array.mk (c :: r)).extract 0 (Array.mk (c :: r)).size) = (c :: r).toArray := ext
      simp only [e1, hnone, Option.getD_none, ext, Nat.zero_add]
      rw [← Array.foldl_toList]
      simp only [hfold]
      simp
    · intro i
      have hsz1 : ¬ (((c :: r).map (·.toUInt8)).toArray.size > sizeLine) := by simpa using hsz
      simp only [if_neg hsz1]
      have hg : (Array.mk (c :: r))[(c :: r).length]? = none := by simp
      simp only [hg]
    · simp
theorem road_ascii (id : String) (self : Value) (x : Str) (errors : Option Str) : _codecs.encodeRoad id self x (Str.ofString "ascii") errors = (do mkBytes (← _codecs.encodeNarrow id _codecs.asciiCodec errors self x)) := by
  first | rfl | (unfold _codecs.encodeRoad; rfl) | (unfold _codecs.encodeRoad; simp only []; rfl)
theorem encode_tree2 (x : Str) (t u : Tok) : «str.encode» ⟨[.str x t, .str (Str.ofString "ascii") u], []⟩ = (do ret (← _codecs.encodeRoad "str.encode" (.str x t) x (Str.ofString "ascii") none)) := by
  first | rfl | kernel_rfl
theorem args_encode (a b : Value) : argsOk "str.encode" ⟨[a, b], []⟩ := by unfold argsOk; kernel_rfl
def asciiOf (x : Str) : Array UInt8 := x.cps.map (·.toUInt8)
theorem encode_call {prog : Program} {w : World} {A : Around} {E : Value → Shared → Prop} {s : Shared} {x : Str} {t u : Tok} {Q : Value → Shared → Prop} (hx : ∀ c ∈ x.cps.toList, c < 128) (hsz : x.cps.size ≤ 16777216) (h : ∀ t' k, Q (.bytes (asciiOf x) t') { s with toks := k }) :
    wpAny (model prog w) A (call (.builtin "str.encode") [.str x t, .str (Str.ofString "ascii") u]) Q E s := by
  refine wpAny_call_entry F.slot_str_encode rfl F.entry_str_encode ?_ (args_encode _ _)
  rw [encode_tree2, road_ascii, ascii_narrow _ _ _ hx (by rw [sizeLine_eq]; exact hsz)]
  refine wpAny_bind (wpAny_bind (wpAny_pure (wpAny_mkBytes (wpAny_pure ⟨_, rfl, h _ _⟩) ?_)))
  show (Array.map _ _).size ≤ _
  rw [sizeLine_eq]; simpa using hsz
end
section
/-- what b2a_base64 gives back for whole groups of three -/
def enc (bs : Array UInt8) : Array UInt8 := byteArr ((efold (KBw.bInts bs)).2.2.map b64c)
def Whole3 (bs : Array UInt8) : Prop := bs.size ≤ 100 ∧ (efold (KBw.bInts bs)).1 = 0
theorem efold_len : ∀ (bs : List Int) (c : StE), (bs.foldl estp c).2.2.length ≤ c.2.2.length + 2 * bs.length
  | [], c => by simp
  | b :: r, c => by
    rw [List.foldl_cons]
    have h1 := efold_len r (estp c b)
    have h2 : (estp c b).2.2.length ≤ c.2.2.length + 2 := by unfold estp; (repeat' split) <;> simp
    rw [List.length_cons]; omega
theorem enc_size {bs : Array UInt8} (h : bs.size ≤ 100) : (enc bs).size ≤ 200 := by
  unfold enc
  rw [byteArr_size, List.length_map]
  have := efold_len (KBw.bInts bs) (0, 0, [])
  rw [KBw.ints_length] at this
  simp only [List.length_nil] at this
  unfold efold; omega
section
variable {w : World} {loose : List Str} {mean : ExcName → Option Value} {mg mb : Str → Option Value} {A₀ A : Around} {base h₀ : Heap} {outer : List Env} {s : Shared} {Q E : Value → Shared → Prop} {L : Addr} {m : Str → Option Value} {news : List (Addr × Obj)} {env : Env}
theorem b2a_use {bs : Array UInt8} {t : Tok} (B : Below A₀ base outer h₀) (F : Fr h₀ L s.heap m) (X : (hd.heap_1 w.params).In h₀) (N : News h₀ L s.heap news) (T : Top topProg loose mean mg mb h₀)
    (hA : A.frames = some (env :: outer)) (hf : env.frame = some L) (hk : env.scope.kind = .function) (hh : A.handled = none) (hd : A.depth ≤ 890) (hu : A.units ≤ 8900)
    (hbs : Hid (Whole3 bs))
    (h : ∀ t' h' tk', Fr h₀ L h' m → News h₀ L h' news → Q (.bytes (enc bs) t') { s with heap := h', toks := tk' }) :
    wpAny (model Challenge.rw_qh0096_01.row.prog w) A (call (.ref 133) [.bytes bs t] [(Str.ofString "newline", .bool false)]) Q E s :=
  wpAny_lower (b2a_ok (Here.down B F X T rfl hf hk) hbs.out.1 hbs.out.2 fun h' tk' t' k => h t' h' tk' (frAfter F k) (newsAfter N k)) hh hA hd hu
end

theorem b64encode_alt {w : World} {loose : List Str} {mean : ExcName → Option Value} {mg mb : Str → Option Value} {base : Heap} {outer : List Env} {gd : Option (List Code)} {s : Shared} {Q E : Value → Shared → Prop} {bs : Array UInt8} {t t2 : Tok}
    (H : Here w loose mean mg mb (Aat 880 8800 outer gd) base outer s.heap) (hbs : Hid (Whole3 bs))
    (hret : Hid (∀ h' tk' t', Keeps s.heap h' → Q (.bytes (trans (mkTrans #[43, 47] #[45, 63]) (enc bs)) t') { s with heap := h', toks := tk' })) :
    wpAny (model Challenge.rw_qh0096_01.row.prog w) (Aat 880 8800 outer gd) (call (.ref 141) [.bytes bs t, .bytes #[45, 63] t2]) Q E s := by
  have hE : (enc bs).size ≤ 16777216 := Nat.le_trans (enc_size hbs.out.1) (by decide)
  have X := H.X
  revert X; k_fill; intro X
  refine' enter [(Str.ofString "s", .bytes bs t), (Str.ofString "altchars", .bytes #[45, 63] t2)] H ?k6 ?k7 ?k8 ?k9 ?kB ?_ ?c2 ?c3 ?c4 ?c5
  (k_dflt ((case k6 => k_is); (case k7 => k_is); (case k8 => k_room); (case k9 => first | exact BindsTo.of_eq rfl | exact binds_K (by k_in) rfl (by k_is) rfl rfl rfl); (case c5 => decide); (case kB => exact locs rfl); (case c2 => exact rfl); (case c3 => exact rfl); (case c4 => exact rfl)))
  clear H X
  intro L' h' tk' F' N' B' X' T'
  try dsimp only
  k_fold
  (repeat' (first | (k_unfold; (try dsimp only)) | (first | with_reducible ((with_reducible show wpAny _ _ (call (Value.builtin "bytes.translate") _ _) _ _ _); (refine translate_call (by first | exact mkTrans_size _ _ | rfl | decide +kernel) (by first | assumption | omega) ?_; intro t9 k9; (try dsimp only))) | with_reducible ((with_reducible show wpAny _ _ (call (Value.builtin "bytes.maketrans") _ _) _ _ _); (refine maketrans_call (by first | rfl | assumption | (simp only [List.size_toArray, List.length_cons, List.length_nil]; omega)) ?_; intro t9 k9; (try dsimp only))) | ((with_reducible show wpAny _ _ (call (Value.builtin "bytes.maketrans") _ _) _ _ _); (refine maketrans_call (by first | rfl | assumption | (simp only [List.size_toArray, List.length_cons, List.length_nil]; omega)) ?_; intro t9 k9; (try dsimp only))) | with_reducible ((with_reducible show wpAny _ _ (getMethod (Value.type "bytes") _ _) _ _ _); (k_here; refine' method_type (by k_asm) (by k_asm) (by exact meta_bytes) (by decide +kernel) (by k_dflt k_is) (by k_handed) ?_)) | with_reducible (k_here; (with_reducible show wpAny _ _ (getMethod (Value.bytes _ _) (Str.ofString "translate") _) _ _ _); (with_reducible refine KBd.method_of _ (typeIs_bytes _ _ _) slot_translate type_translate KBd.noRef ?_)) | with_reducible ((with_reducible show wpAny _ _ (call (Value.ref _) _ _) _ _ _); (k_here; first | ((with_reducible show wpAny _ _ (call (Value.ref 133) _ _) _ _ _); k_dflt (refine' b2a_use (by k_asm) (by k_asm) (by k_asm) (by k_asm) (by k_asm) (by exact rfl) (by exact rfl) (by exact rfl) (by exact rfl) (by exact Nat.le_of_ble_eq_true rfl) (by exact Nat.le_of_ble_eq_true rfl) (by assumption) ?_; k_whole; intro t9 h9 tk9 F9 N9; (try dsimp only); (try k_sweep))))) | with_reducible ((with_reducible show ite _ _ _); first | (refine ite_pos (by ((try simp only [decide_eq_true_eq, beq_iff_eq, bne_iff_ne, ne_eq, Bool.not_eq_true']); omega)) ?_; walk_say "m ite +") | (refine ite_neg (by ((try simp only [decide_eq_true_eq, beq_iff_eq, bne_iff_ne, ne_eq, Bool.not_eq_true']); omega)) ?_; walk_say "m ite -")) | with_reducible ((with_reducible show InvEndN _ _ _ _ _ _ _); refine stop_here ?_)) | walk1 | (dsimp only; walk1) | (leave1; walk_say "STEP leave1"; try dsimp only) | fail "no step"))
  all_goals ((try k_unfold); (try dsimp only); rename Fr _ _ _ _ => nF; exact hret.out _ _ _ nF.keep)

theorem b64encode_none {w : World} {loose : List Str} {mean : ExcName → Option Value} {mg mb : Str → Option Value} {base : Heap} {outer : List Env} {gd : Option (List Code)} {s : Shared} {Q E : Value → Shared → Prop} {bs : Array UInt8} {t : Tok}
    (H : Here w loose mean mg mb (Aat 880 8800 outer gd) base outer s.heap) (hbs : Hid (Whole3 bs))
    (hret : Hid (∀ h' tk' t', Keeps s.heap h' → Q (.bytes (enc bs) t') { s with heap := h', toks := tk' })) :
    wpAny (model Challenge.rw_qh0096_01.row.prog w) (Aat 880 8800 outer gd) (call (.ref 141) [.bytes bs t]) Q E s := by
  have X := H.X
  revert X; k_fill; intro X
  refine' enter [(Str.ofString "s", .bytes bs t), (Str.ofString "altchars", .none)] H ?k6 ?k7 ?k8 ?k9 ?kB ?_ ?c2 ?c3 ?c4 ?c5
  (k_dflt ((case k6 => k_is); (case k7 => k_is); (case k8 => k_room); (case k9 => first | exact BindsTo.of_eq rfl | exact binds_K (by k_in) rfl (by k_is) rfl rfl rfl); (case c5 => decide); (case kB => exact locs rfl); (case c2 => exact rfl); (case c3 => exact rfl); (case c4 => exact rfl)))
  clear H X
  intro L' h' tk' F' N' B' X' T'
  try dsimp only
  k_fold
  (repeat' (first | (k_unfold; (try dsimp only)) | (first | with_reducible ((with_reducible show wpAny _ _ (call (Value.builtin "bytes.translate") _ _) _ _ _); (refine translate_call (by first | exact mkTrans_size _ _ | rfl | decide +kernel) (by first | assumption | omega) ?_; intro t9 k9; (try dsimp only))) | with_reducible ((with_reducible show wpAny _ _ (call (Value.builtin "bytes.maketrans") _ _) _ _ _); (refine maketrans_call (by first | rfl | assumption | (simp only [List.size_toArray, List.length_cons, List.length_nil]; omega)) ?_; intro t9 k9; (try dsimp only))) | ((with_reducible show wpAny _ _ (call (Value.builtin "bytes.maketrans") _ _) _ _ _); (refine maketrans_call (by first | rfl | assumption | (simp only [List.size_toArray, List.length_cons, List.length_nil]; omega)) ?_; intro t9 k9; (try dsimp only))) | with_reducible ((with_reducible show wpAny _ _ (getMethod (Value.type "bytes") _ _) _ _ _); (k_here; refine' method_type (by k_asm) (by k_asm) (by exact meta_bytes) (by decide +kernel) (by k_dflt k_is) (by k_handed) ?_)) | with_reducible (k_here; (with_reducible show wpAny _ _ (getMethod (Value.bytes _ _) (Str.ofString "translate") _) _ _ _); (with_reducible refine KBd.method_of _ (typeIs_bytes _ _ _) slot_translate type_translate KBd.noRef ?_)) | with_reducible ((with_reducible show wpAny _ _ (call (Value.ref _) _ _) _ _ _); (k_here; first | ((with_reducible show wpAny _ _ (call (Value.ref 133) _ _) _ _ _); k_dflt (refine' b2a_use (by k_asm) (by k_asm) (by k_asm) (by k_asm) (by k_asm) (by exact rfl) (by exact rfl) (by exact rfl) (by exact rfl) (by exact Nat.le_of_ble_eq_true rfl) (by exact Nat.le_of_ble_eq_true rfl) (by assumption) ?_; k_whole; intro t9 h9 tk9 F9 N9; (try dsimp only); (try k_sweep))))) | with_reducible ((with_reducible show ite _ _ _); first | (refine ite_pos (by ((try simp only [decide_eq_true_eq, beq_iff_eq, bne_iff_ne, ne_eq, Bool.not_eq_true']); omega)) ?_; walk_say "m ite +") | (refine ite_neg (by ((try simp only [decide_eq_true_eq, beq_iff_eq, bne_iff_ne, ne_eq, Bool.not_eq_true']); omega)) ?_; walk_say "m ite -")) | with_reducible ((with_reducible show InvEndN _ _ _ _ _ _ _); refine stop_here ?_)) | walk1 | (dsimp only; walk1) | (leave1; walk_say "STEP leave1"; try dsimp only) | fail "no step"))
  all_goals ((try k_unfold); (try dsimp only); rename Fr _ _ _ _ => nF; exact hret.out _ _ _ nF.keep)

section
variable {w : World} {loose : List Str} {mean : ExcName → Option Value} {mg mb : Str → Option Value} {A₀ A : Around} {base h₀ : Heap} {outer : List Env} {s : Shared} {Q E : Value → Shared → Prop} {L : Addr} {m : Str → Option Value} {news : List (Addr × Obj)} {env : Env}
theorem b64encode_none_use {bs : Array UInt8} {t : Tok} (B : Below A₀ base outer h₀) (F : Fr h₀ L s.heap m) (X : (hd.heap_1 w.params).In h₀) (N : News h₀ L s.heap news) (T : Top topProg loose mean mg mb h₀)
    (hA : A.frames = some (env :: outer)) (hf : env.frame = some L) (hk : env.scope.kind = .function) (hh : A.handled = none) (hd : A.depth ≤ 880) (hu : A.units ≤ 8800)
    (hbs : Hid (Whole3 bs))
    (h : ∀ t' h' tk', Fr h₀ L h' m → News h₀ L h' news → Q (.bytes (enc bs) t') { s with heap := h', toks := tk' }) :
    wpAny (model Challenge.rw_qh0096_01.row.prog w) A (call (.ref 141) [.bytes bs t]) Q E s :=
  wpAny_lower (b64encode_none (Here.down B F X T rfl hf hk) hbs ⟨fun h' tk' t' k => h t' h' tk' (frAfter F k) (newsAfter N k)⟩) hh hA hd hu
end

theorem standard_encode {w : World} {loose : List Str} {mean : ExcName → Option Value} {mg mb : Str → Option Value} {base : Heap} {outer : List Env} {gd : Option (List Code)} {s : Shared} {Q E : Value → Shared → Prop} {bs : Array UInt8} {t : Tok}
    (H : Here w loose mean mg mb (Aat 870 8700 outer gd) base outer s.heap) (hbs : Hid (Whole3 bs))
    (hret : Hid (∀ h' tk' t', Keeps s.heap h' → Q (.bytes (enc bs) t') { s with heap := h', toks := tk' })) :
    wpAny (model Challenge.rw_qh0096_01.row.prog w) (Aat 870 8700 outer gd) (call (.ref 156) [.bytes bs t]) Q E s := by
  have X := H.X
  revert X; k_fill; intro X
  refine' enter [(Str.ofString "s", .bytes bs t)] H ?k6 ?k7 ?k8 ?k9 ?kB ?_ ?c2 ?c3 ?c4 ?c5
  (k_dflt ((case k6 => k_is); (case k7 => k_is); (case k8 => k_room); (case k9 => first | exact BindsTo.of_eq rfl | exact binds_K (by k_in) rfl (by k_is) rfl rfl rfl); (case c5 => decide); (case kB => exact locs rfl); (case c2 => exact rfl); (case c3 => exact rfl); (case c4 => exact rfl)))
  clear H X
  intro L' h' tk' F' N' B' X' T'
  try dsimp only
  k_fold
  (repeat' (first | (k_unfold; (try dsimp only)) | (first | with_reducible ((with_reducible show wpAny _ _ (call (Value.ref _) _ _) _ _ _); (k_here; ( ((with_reducible show wpAny _ _ (call (Value.ref 141) [_] _) _ _ _); k_dflt (refine' b64encode_none_use (by k_asm) (by k_asm) (by k_asm) (by k_asm) (by k_asm) (by exact rfl) (by exact rfl) (by exact rfl) (by exact rfl) (by exact Nat.le_of_ble_eq_true rfl) (by exact Nat.le_of_ble_eq_true rfl) (by assumption) ?_; k_whole; intro t9 h9 tk9 F9 N9; (try dsimp only); (try k_sweep)))))) | with_reducible ((with_reducible show wpAny _ _ (call (Value.builtin "bytes.translate") _ _) _ _ _); (refine translate_call (by first | exact mkTrans_size _ _ | rfl | decide +kernel) (by first | assumption | omega) ?_; intro t9 k9; (try dsimp only))) | with_reducible ((with_reducible show wpAny _ _ (call (Value.builtin "bytes.maketrans") _ _) _ _ _); (refine maketrans_call (by first | rfl | assumption | (simp only [List.size_toArray, List.length_cons, List.length_nil]; omega)) ?_; intro t9 k9; (try dsimp only))) | ((with_reducible show wpAny _ _ (call (Value.builtin "bytes.maketrans") _ _) _ _ _); (refine maketrans_call (by first | rfl | assumption | (simp only [List.size_toArray, List.length_cons, List.length_nil]; omega)) ?_; intro t9 k9; (try dsimp only))) | with_reducible ((with_reducible show wpAny _ _ (getMethod (Value.type "bytes") _ _) _ _ _); (k_here; refine' method_type (by k_asm) (by k_asm) (by exact meta_bytes) (by decide +kernel) (by k_dflt k_is) (by k_handed) ?_)) | with_reducible (k_here; (with_reducible show wpAny _ _ (getMethod (Value.bytes _ _) (Str.ofString "translate") _) _ _ _); (with_reducible refine KBd.method_of _ (typeIs_bytes _ _ _) slot_translate type_translate KBd.noRef ?_)) | with_reducible ((with_reducible show wpAny _ _ (call (Value.ref _) _ _) _ _ _); (k_here; first | ((with_reducible show wpAny _ _ (call (Value.ref 133) _ _) _ _ _); k_dflt (refine' b2a_use (by k_asm) (by k_asm) (by k_asm) (by k_asm) (by k_asm) (by exact rfl) (by exact rfl) (by exact rfl) (by exact rfl) (by exact Nat.le_of_ble_eq_true rfl) (by exact Nat.le_of_ble_eq_true rfl) (by assumption) ?_; k_whole; intro t9 h9 tk9 F9 N9; (try dsimp only); (try k_sweep))))) | with_reducible ((with_reducible show ite _ _ _); first | (refine ite_pos (by ((try simp only [decide_eq_true_eq, beq_iff_eq, bne_iff_ne, ne_eq, Bool.not_eq_true']); omega)) ?_; walk_say "m ite +") | (refine ite_neg (by ((try simp only [decide_eq_true_eq, beq_iff_eq, bne_iff_ne, ne_eq, Bool.not_eq_true']); omega)) ?_; walk_say "m ite -")) | with_reducible ((with_reducible show InvEndN _ _ _ _ _ _ _); refine stop_here ?_)) | walk1 | (dsimp only; walk1) | (leave1; walk_say "STEP leave1"; try dsimp only) | fail "no step"))
  all_goals ((try k_unfold); (try dsimp only); rename Fr _ _ _ _ => nF; exact hret.out _ _ _ nF.keep)

theorem urlsafe_encode {w : World} {loose : List Str} {mean : ExcName → Option Value} {mg mb : Str → Option Value} {base : Heap} {outer : List Env} {gd : Option (List Code)} {s : Shared} {Q E : Value → Shared → Prop} {bs : Array UInt8} {t : Tok}
    (H : Here w loose mean mg mb (Aat 870 8700 outer gd) base outer s.heap) (hbs : Hid (Whole3 bs))
    (hret : Hid (∀ h' tk' t', Keeps s.heap h' → Q (.bytes (trans (mkTrans #[43, 47] #[45, 95]) (enc bs)) t') { s with heap := h', toks := tk' })) :
    wpAny (model Challenge.rw_qh0096_01.row.prog w) (Aat 870 8700 outer gd) (call (.ref 170) [.bytes bs t]) Q E s := by
  have hE : (enc bs).size ≤ 16777216 := Nat.le_trans (enc_size hbs.out.1) (by decide)
  have X := H.X
  revert X; k_fill; intro X
  refine' enter [(Str.ofString "s", .bytes bs t)] H ?k6 ?k7 ?k8 ?k9 ?kB ?_ ?c2 ?c3 ?c4 ?c5
  (k_dflt ((case k6 => k_is); (case k7 => k_is); (case k8 => k_room); (case k9 => first | exact BindsTo.of_eq rfl | exact binds_K (by k_in) rfl (by k_is) rfl rfl rfl); (case c5 => decide); (case kB => exact locs rfl); (case c2 => exact rfl); (case c3 => exact rfl); (case c4 => exact rfl)))
  clear H X
  intro L' h' tk' F' N' B' X' T'
  try dsimp only
  k_fold
  (repeat' (first | (k_unfold; (try dsimp only)) | (first | with_reducible ((with_reducible show wpAny _ _ (call (Value.ref _) _ _) _ _ _); (k_here; ( ((with_reducible show wpAny _ _ (call (Value.ref 141) [_] _) _ _ _); k_dflt (refine' b64encode_none_use (by k_asm) (by k_asm) (by k_asm) (by k_asm) (by k_asm) (by exact rfl) (by exact rfl) (by exact rfl) (by exact rfl) (by exact Nat.le_of_ble_eq_true rfl) (by exact Nat.le_of_ble_eq_true rfl) (by assumption) ?_; k_whole; intro t9 h9 tk9 F9 N9; (try dsimp only); (try k_sweep)))))) | with_reducible ((with_reducible show wpAny _ _ (call (Value.builtin "bytes.translate") _ _) _ _ _); (refine translate_call (by first | exact mkTrans_size _ _ | rfl | decide +kernel) (by first | assumption | omega) ?_; intro t9 k9; (try dsimp only))) | with_reducible ((with_reducible show wpAny _ _ (call (Value.builtin "bytes.maketrans") _ _) _ _ _); (refine maketrans_call (by first | rfl | assumption | (simp only [List.size_toArray, List.length_cons, List.length_nil]; omega)) ?_; intro t9 k9; (try dsimp only))) | ((with_reducible show wpAny _ _ (call (Value.builtin "bytes.maketrans") _ _) _ _ _); (refine maketrans_call (by first | rfl | assumption | (simp only [List.size_toArray, List.length_cons, List.length_nil]; omega)) ?_; intro t9 k9; (try dsimp only))) | with_reducible ((with_reducible show wpAny _ _ (getMethod (Value.type "bytes") _ _) _ _ _); (k_here; refine' method_type (by k_asm) (by k_asm) (by exact meta_bytes) (by decide +kernel) (by k_dflt k_is) (by k_handed) ?_)) | with_reducible (k_here; (with_reducible show wpAny _ _ (getMethod (Value.bytes _ _) (Str.ofString "translate") _) _ _ _); (with_reducible refine KBd.method_of _ (typeIs_bytes _ _ _) slot_translate type_translate KBd.noRef ?_)) | with_reducible ((with_reducible show wpAny _ _ (call (Value.ref _) _ _) _ _ _); (k_here; first | ((with_reducible show wpAny _ _ (call (Value.ref 133) _ _) _ _ _); k_dflt (refine' b2a_use (by k_asm) (by k_asm) (by k_asm) (by k_asm) (by k_asm) (by exact rfl) (by exact rfl) (by exact rfl) (by exact rfl) (by exact Nat.le_of_ble_eq_true rfl) (by exact Nat.le_of_ble_eq_true rfl) (by assumption) ?_; k_whole; intro t9 h9 tk9 F9 N9; (try dsimp only); (try k_sweep))))) | with_reducible ((with_reducible show ite _ _ _); first | (refine ite_pos (by ((try simp only [decide_eq_true_eq, beq_iff_eq, bne_iff_ne, ne_eq, Bool.not_eq_true']); omega)) ?_; walk_say "m ite +") | (refine ite_neg (by ((try simp only [decide_eq_true_eq, beq_iff_eq, bne_iff_ne, ne_eq, Bool.not_eq_true']); omega)) ?_; walk_say "m ite -")) | with_reducible ((with_reducible show InvEndN _ _ _ _ _ _ _); refine stop_here ?_)) | walk1 | (dsimp only; walk1) | (leave1; walk_say "STEP leave1"; try dsimp only) | fail "no step"))
  all_goals ((try k_unfold); (try dsimp only); rename Fr _ _ _ _ => nF; refine ret_bytes (s := s) hret.out ?_ nF)
  all_goals (refine congrArg (fun T => trans T (enc bs)) ?_; decide +kernel)
end
section
/-- a value that stands for these bytes: bytes, or an ASCII text -/
inductive AsBytes : Value → Array UInt8 → Prop where
  | bytes (b : Array UInt8) (t : Tok) : AsBytes (.bytes b t) b
  | str (x : Str) (t : Tok) (h : ∀ c ∈ x.cps.toList, c < 128) (hz : x.cps.size ≤ 16777216) : AsBytes (.str x t) (asciiOf x)


theorem str_noRef {s : Shared} {x : Str} {t : Tok} : ∀ a, Value.str x t = .ref a → ∃ o, s.heap.get? a = some o ∧ o.dict = none := fun _ e => nomatch e
theorem getm_encode {M : Model} {A : Around} {E : Value → Shared → Prop} {s : Shared} {x : Str} {t : Tok} {pl : Sem Bool} {Q : Value × List Value → Shared → Prop} (h : Q (.builtin "str.encode", [.str x t]) s) :
    wpAny M A (getMethod (.str x t) (Str.ofString "encode") pl) Q E s := getMethod_builtin (T := "str") rfl F.plainAttrs_str F.slot_str_encode F.type_str_encode str_noRef h

theorem bfd_ok {w : World} {loose : List Str} {mean : ExcName → Option Value} {mg mb : Str → Option Value} {base : Heap} {outer : List Env} {gd : Option (List Code)} {s : Shared} {Q E : Value → Shared → Prop} {v : Value} {b : Array UInt8}
    (H : Here w loose mean mg mb (Aat 900 9000 outer gd) base outer s.heap) (hv : AsBytes v b)
    (hret : Hid (∀ h' tk' t', Keeps s.heap h' → Q (.bytes b t') { s with heap := h', toks := tk' })) :
    wpAny (model Challenge.rw_qh0096_01.row.prog w) (Aat 900 9000 outer gd) (call (.ref 76) [v]) Q E s := by
  have X := H.X
  revert X; k_fill; intro X
  cases hv with
  | bytes _ t =>
    refine' enter [(Str.ofString "s", .bytes b t)] H ?k6 ?k7 ?k8 ?k9 ?kB ?_ ?c2 ?c3 ?c4 ?c5
    (k_dflt ((case k6 => k_is); (case k7 => k_is); (case k8 => k_room); (case k9 => first | exact BindsTo.of_eq rfl | exact binds_K (by k_in) rfl (by k_is) rfl rfl rfl); (case c5 => decide); (case kB => exact locs rfl); (case c2 => exact rfl); (case c3 => exact rfl); (case c4 => exact rfl)))
    clear H X
    intro L' h' tk' F' N' B' X' T'
    try dsimp only
    k_fold
    (repeat' (first | (k_unfold; (try dsimp only)) | (first | with_reducible ((with_reducible show wpAny _ _ (getMethod (Value.str _ _) _ _) _ _ _); (k_here; with_reducible refine getm_encode ?_)) | with_reducible ((with_reducible show wpAny _ _ (call (Value.builtin "str.encode") _ _) _ _ _); (refine encode_call (by exact Hid.out (by assumption)) (by assumption) ?_; intro t9 k9; (try dsimp only))) | ((with_reducible show wpAny _ _ (call (Value.builtin "str.encode") _ _) _ _ _); (refine encode_call (by exact Hid.out (by assumption)) (by assumption) ?_; intro t9 k9; (try dsimp only))) | with_reducible ((with_reducible show ite _ _ _); first | (refine ite_pos (by ((try simp only [decide_eq_true_eq, beq_iff_eq, bne_iff_ne, ne_eq, Bool.not_eq_true']); omega)) ?_; walk_say "m ite +") | (refine ite_neg (by ((try simp only [decide_eq_true_eq, beq_iff_eq, bne_iff_ne, ne_eq, Bool.not_eq_true']); omega)) ?_; walk_say "m ite -")) | with_reducible ((with_reducible show InvEndN _ _ _ _ _ _ _); refine stop_here ?_)) | walk1 | (dsimp only; walk1) | (leave1; walk_say "STEP leave1"; try dsimp only) | fail "no step"))
    all_goals ((try k_unfold); (try dsimp only); rename Fr _ _ _ _ => nF; exact hret.out _ _ _ nF.keep)
  | str x t h hz =>
    refine' enter [(Str.ofString "s", .str x t)] H ?k6 ?k7 ?k8 ?k9 ?kB ?_ ?c2 ?c3 ?c4 ?c5
    (k_dflt ((case k6 => k_is); (case k7 => k_is); (case k8 => k_room); (case k9 => first | exact BindsTo.of_eq rfl | exact binds_K (by k_in) rfl (by k_is) rfl rfl rfl); (case c5 => decide); (case kB => exact locs rfl); (case c2 => exact rfl); (case c3 => exact rfl); (case c4 => exact rfl)))
    clear H X
    replace h := Hid.mk h
    intro L' h' tk' F' N' B' X' T'
    try dsimp only
    k_fold
    (repeat' (first | (k_unfold; (try dsimp only)) | (first | with_reducible ((with_reducible show wpAny _ _ (getMethod (Value.str _ _) _ _) _ _ _); (k_here; with_reducible refine getm_encode ?_)) | with_reducible ((with_reducible show wpAny _ _ (call (Value.builtin "str.encode") _ _) _ _ _); (refine encode_call (by exact Hid.out (by assumption)) (by assumption) ?_; intro t9 k9; (try dsimp only))) | ((with_reducible show wpAny _ _ (call (Value.builtin "str.encode") _ _) _ _ _); (refine encode_call (by exact Hid.out (by assumption)) (by assumption) ?_; intro t9 k9; (try dsimp only))) | with_reducible ((with_reducible show ite _ _ _); first | (refine ite_pos (by ((try simp only [decide_eq_true_eq, beq_iff_eq, bne_iff_ne, ne_eq, Bool.not_eq_true']); omega)) ?_; walk_say "m ite +") | (refine ite_neg (by ((try simp only [decide_eq_true_eq, beq_iff_eq, bne_iff_ne, ne_eq, Bool.not_eq_true']); omega)) ?_; walk_say "m ite -")) | with_reducible ((with_reducible show InvEndN _ _ _ _ _ _ _); refine stop_here ?_)) | walk1 | (dsimp only; walk1) | (leave1; walk_say "STEP leave1"; try dsimp only) | fail "no step"))
    all_goals ((try k_unfold); (try dsimp only); rename Fr _ _ _ _ => nF; exact hret.out _ _ _ nF.keep)
end
section
/-- the arguments behind s, the value that altchars gets, its bytes, validate -/
inductive DecArgs : List Value → Value → Option (Array UInt8) → Bool → Prop where
  | none0 : DecArgs [] .none none false
  | noneT : DecArgs [.none, .bool true] .none none true
  | alt {v : Value} {b : Array UInt8} : AsBytes v b → b.size = 2 → DecArgs [v] v (some b) false
  | altT {v : Value} {b : Array UInt8} : AsBytes v b → b.size = 2 → DecArgs [v, .bool true] v (some b) true
def decIn (alt : Option (Array UInt8)) (b : Array UInt8) : Array UInt8 := match alt with | none => b | some a => trans (mkTrans a #[43, 47]) b
/-- what a2b_base64 asks of its bytes -/
structure Dec (strict : Bool) (bs : Array UInt8) (xs : List Int) (k : Nat) : Prop where
  size : bs.size ≤ 100
  hints : KBw.bInts bs = xs ++ List.replicate k 61
  noeq : (61 : Int) ∉ xs
  pad : strict = true → k = 0 ∨ (2 ≤ (vals xs).length % 4 ∧ (vals xs).length % 4 + k ≤ 4)

section
variable {w : World} {loose : List Str} {mean : ExcName → Option Value} {mg mb : Str → Option Value} {A₀ A : Around} {base h₀ : Heap} {outer : List Env} {s : Shared} {Q E : Value → Shared → Prop} {L : Addr} {m : Str → Option Value} {news : List (Addr × Obj)} {env : Env}
theorem a2b_use {bs : Array UInt8} {t : Tok} {strict : Bool} {xs : List Int} {k : Nat} (B : Below A₀ base outer h₀) (F : Fr h₀ L s.heap m) (X : (hd.heap_1 w.params).In h₀) (N : News h₀ L s.heap news) (T : Top topProg loose mean mg mb h₀)
    (hA : A.frames = some (env :: outer)) (hf : env.frame = some L) (hk : env.scope.kind = .function) (hh : A.handled = none) (hd : A.depth ≤ 890) (hu : A.units ≤ 8900)
    (hD : Hid (Dec strict bs xs k))
    (h : ∀ out, Hid (a2bOut strict xs k = .ok out) → ∀ t' h' tk', Fr h₀ L h' m → News h₀ L h' news → Q (.bytes (byteArr out) t') { s with heap := h', toks := tk' })
    (he : ∀ msg, Hid (a2bOut strict xs k = .error msg) → ∀ e t' u h' tk', RaisedS base s.heap (env :: outer) e (.ref 86) t' [.str msg u] [] h' → s.heap.UpToSlots h' → E (.ref e) { s with heap := h', toks := tk' }) :
    wpAny (model Challenge.rw_qh0096_01.row.prog w) A (call (.ref 125) [.bytes bs t] [(Str.ofString "strict_mode", .bool strict)]) Q E s :=
  wpAny_lower (a2b_ok (Here.down B F X T rfl hf hk) hD.out.size hD.out.hints hD.out.noeq hD.out.pad (fun out ho h' tk' t' k => h out ⟨ho⟩ t' h' tk' (frAfter F k) (newsAfter N k)) fun msg hm e t' u h' tk' R U => he msg ⟨hm⟩ e t' u h' tk' R U) hh hA hd hu
theorem bfd_use {v : Value} {b : Array UInt8} (B : Below A₀ base outer h₀) (F : Fr h₀ L s.heap m) (X : (hd.heap_1 w.params).In h₀) (N : News h₀ L s.heap news) (T : Top topProg loose mean mg mb h₀)
    (hA : A.frames = some (env :: outer)) (hf : env.frame = some L) (hk : env.scope.kind = .function) (hh : A.handled = none) (hd : A.depth ≤ 900) (hu : A.units ≤ 9000)
    (hv : AsBytes v b)
    (h : ∀ t' h' tk', Fr h₀ L h' m → News h₀ L h' news → Q (.bytes b t') { s with heap := h', toks := tk' }) :
    wpAny (model Challenge.rw_qh0096_01.row.prog w) A (call (.ref 76) [v]) Q E s :=
  wpAny_lower (bfd_ok (Here.down B F X T rfl hf hk) hv ⟨fun h' tk' t' k => h t' h' tk' (frAfter F k) (newsAfter N k)⟩) hh hA hd hu
end

theorem b64decode_ok {w : World} {loose : List Str} {mean : ExcName → Option Value} {mg mb : Str → Option Value} {base : Heap} {outer : List Env} {gd : Option (List Code)} {s : Shared} {Q E : Value → Shared → Prop} {v av : Value} {rest : List Value} {b : Array UInt8} {alt : Option (Array UInt8)} {strict : Bool} {xs : List Int} {k : Nat}
    (H : Here w loose mean mg mb (Aat 880 8800 outer gd) base outer s.heap) (hv : AsBytes v b) (ha : DecArgs rest av alt strict) (hb : b.size ≤ 16777216) (hD : Hid (Dec strict (decIn alt b) xs k))
    (hret : Hid (∀ out, a2bOut strict xs k = .ok out → ∀ h' tk' t', Keeps s.heap h' → Q (.bytes (byteArr out) t') { s with heap := h', toks := tk' }))
    (herr : Hid (∀ msg, a2bOut strict xs k = .error msg → ∀ e t' u h' tk', RaisedS base s.heap outer e (.ref 86) t' [.str msg u] [] h' → s.heap.UpToSlots h' → E (.ref e) { s with heap := h', toks := tk' })) :
    wpAny (model Challenge.rw_qh0096_01.row.prog w) (Aat 880 8800 outer gd) (call (.ref 149) (v :: rest)) Q E s := by
  have X := H.X
  revert X; k_fill; intro X
  refine' enter [(Str.ofString "s", v), (Str.ofString "altchars", av), (Str.ofString "validate", .bool strict)] H ?k6 ?k7 ?k8 ?k9 ?kB ?_ ?c2 ?c3 ?c4 ?c5
  k_dflt ((case k6 => k_is); (case k7 => k_is); (case k8 => k_room); (case k9 => cases ha <;> (first | exact BindsTo.of_eq rfl | exact binds_K (by k_in) rfl (by k_is) rfl rfl rfl)); (case c5 => decide); (case kB => exact locs rfl); (case c2 => exact rfl); (case c3 => exact rfl); (case c4 => exact rfl))
  clear H X
  intro L' h' tk' F' N' B' X' T'
  try dsimp only
  k_fold
  have hc : (alt = none ∧ av = .none) ∨ ∃ a, alt = some a ∧ AsBytes av a ∧ a.size = 2 := by
    cases ha with
    | none0 => exact .inl ⟨rfl, rfl⟩
    | noneT => exact .inl ⟨rfl, rfl⟩
    | alt h1 h2 => exact .inr ⟨_, rfl, h1, h2⟩
    | altT h1 h2 => exact .inr ⟨_, rfl, h1, h2⟩
  clear ha
  rcases hc with ⟨rfl, rfl⟩ | ⟨a, rfl, hav, ha2⟩
  · dsimp only [decIn] at hD
    (repeat' (first | (k_unfold; (try dsimp only)) | (first | with_reducible ((with_reducible show wpAny _ _ (leaving _ (Value.ref _)) _ _ _); (k_here; (refine' leave_onS (by assumption) (by assumption) (by assumption) (by assumption) ?_; k_whole; intro h' S' R' U'; (try dsimp only at S' R' U' ⊢)))) | with_reducible ((with_reducible show wpAny _ _ (call (Value.builtin "bytes.translate") _ _) _ _ _); (refine translate_call (by first | exact mkTrans_size _ _ | rfl | decide +kernel) (by first | assumption | omega) ?_; intro t9 k9; (try dsimp only))) | with_reducible ((with_reducible show wpAny _ _ (call (Value.builtin "bytes.maketrans") _ _) _ _ _); (refine maketrans_call (by first | rfl | assumption | (simp only [List.size_toArray, List.length_cons, List.length_nil]; omega)) ?_; intro t9 k9; (try dsimp only))) | ((with_reducible show wpAny _ _ (call (Value.builtin "bytes.maketrans") _ _) _ _ _); (refine maketrans_call (by first | rfl | assumption | (simp only [List.size_toArray, List.length_cons, List.length_nil]; omega)) ?_; intro t9 k9; (try dsimp only))) | with_reducible ((with_reducible show wpAny _ _ (getMethod (Value.type "bytes") _ _) _ _ _); (k_here; refine' method_type (by k_asm) (by k_asm) (by exact meta_bytes) (by decide +kernel) (by k_dflt k_is) (by k_handed) ?_)) | with_reducible (k_here; (with_reducible show wpAny _ _ (getMethod (Value.bytes _ _) (Str.ofString "translate") _) _ _ _); (with_reducible refine KBd.method_of _ (typeIs_bytes _ _ _) slot_translate type_translate KBd.noRef ?_)) | with_reducible ((with_reducible show wpAny _ _ (call (Value.ref _) _ _) _ _ _); (k_here; first | ((with_reducible show wpAny _ _ (call (Value.ref 76) _ _) _ _ _); k_dflt (refine' bfd_use (by k_asm) (by k_asm) (by k_asm) (by k_asm) (by k_asm) (by exact rfl) (by exact rfl) (by exact rfl) (by exact rfl) (by exact Nat.le_of_ble_eq_true rfl) (by exact Nat.le_of_ble_eq_true rfl) (by assumption) ?_; k_whole; intro t9 h9 tk9 F9 N9; (try dsimp only); (try k_sweep))) | ((with_reducible show wpAny _ _ (call (Value.ref 125) _ _) _ _ _); k_dflt (refine' a2b_use (by k_asm) (by k_asm) (by k_asm) (by k_asm) (by k_asm) (by exact rfl) (by exact rfl) (by exact rfl) (by exact rfl) (by exact Nat.le_of_ble_eq_true rfl) (by exact Nat.le_of_ble_eq_true rfl) (by assumption) ?_ ?_; k_whole; first | (intro o9 ho9 t9 h9 tk9 F9 N9; (try dsimp only); (try k_sweep)) | (intro o9 ho9 e9 t9 u9 h9 tk9 R9 U9; (try dsimp only)))))) | with_reducible ((with_reducible show ite _ _ _); first | (refine ite_pos (by ((try simp only [decide_eq_true_eq, beq_iff_eq, bne_iff_ne, ne_eq, Bool.not_eq_true']); omega)) ?_; walk_say "m ite +") | (refine ite_neg (by ((try simp only [decide_eq_true_eq, beq_iff_eq, bne_iff_ne, ne_eq, Bool.not_eq_true']); omega)) ?_; walk_say "m ite -")) | with_reducible ((with_reducible show InvEndN _ _ _ _ _ _ _); refine stop_here ?_)) | walk1 | (dsimp only; walk1) | (leave1; walk_say "STEP leave1"; try dsimp only) | fail "no step"))
    all_goals first
      | (rename RaisedS _ _ _ _ _ _ _ _ _ => rS; rename Heap.UpToSlots _ _ => rU; rename Hid (a2bOut _ _ _ = .error _) => hm; exact herr.out _ hm.out _ _ _ _ _ rS rU)
      | ((try k_unfold); (try dsimp only); rename Fr _ _ _ _ => nF; rename Hid (a2bOut _ _ _ = .ok _) => hm; exact hret.out _ hm.out _ _ _ nF.keep)
  · dsimp only [decIn] at hD
    cases hav with
    | bytes _ t2 =>
      have hav : AsBytes (.bytes a t2) a := .bytes _ _
      (repeat' (first | (k_unfold; (try dsimp only)) | (first | with_reducible ((with_reducible show wpAny _ _ (leaving _ (Value.ref _)) _ _ _); (k_here; (refine' leave_onS (by assumption) (by assumption) (by assumption) (by assumption) ?_; k_whole; intro h' S' R' U'; (try dsimp only at S' R' U' ⊢)))) | with_reducible ((with_reducible show wpAny _ _ (call (Value.builtin "bytes.translate") _ _) _ _ _); (refine translate_call (by first | exact mkTrans_size _ _ | rfl | decide +kernel) (by first | assumption | omega) ?_; intro t9 k9; (try dsimp only))) | with_reducible ((with_reducible show wpAny _ _ (call (Value.builtin "bytes.maketrans") _ _) _ _ _); (refine maketrans_call (by first | rfl | assumption | (simp only [List.size_toArray, List.length_cons, List.length_nil]; omega)) ?_; intro t9 k9; (try dsimp only))) | ((with_reducible show wpAny _ _ (call (Value.builtin "bytes.maketrans") _ _) _ _ _); (refine maketrans_call (by first | rfl | assumption | (simp only [List.size_toArray, List.length_cons, List.length_nil]; omega)) ?_; intro t9 k9; (try dsimp only))) | with_reducible ((with_reducible show wpAny _ _ (getMethod (Value.type "bytes") _ _) _ _ _); (k_here; refine' method_type (by k_asm) (by k_asm) (by exact meta_bytes) (by decide +kernel) (by k_dflt k_is) (by k_handed) ?_)) | with_reducible (k_here; (with_reducible show wpAny _ _ (getMethod (Value.bytes _ _) (Str.ofString "translate") _) _ _ _); (with_reducible refine KBd.method_of _ (typeIs_bytes _ _ _) slot_translate type_translate KBd.noRef ?_)) | with_reducible ((with_reducible show wpAny _ _ (call (Value.ref _) _ _) _ _ _); (k_here; first | ((with_reducible show wpAny _ _ (call (Value.ref 76) _ _) _ _ _); k_dflt (refine' bfd_use (by k_asm) (by k_asm) (by k_asm) (by k_asm) (by k_asm) (by exact rfl) (by exact rfl) (by exact rfl) (by exact rfl) (by exact Nat.le_of_ble_eq_true rfl) (by exact Nat.le_of_ble_eq_true rfl) (by assumption) ?_; k_whole; intro t9 h9 tk9 F9 N9; (try dsimp only); (try k_sweep))) | ((with_reducible show wpAny _ _ (call (Value.ref 125) _ _) _ _ _); k_dflt (refine' a2b_use (by k_asm) (by k_asm) (by k_asm) (by k_asm) (by k_asm) (by exact rfl) (by exact rfl) (by exact rfl) (by exact rfl) (by exact Nat.le_of_ble_eq_true rfl) (by exact Nat.le_of_ble_eq_true rfl) (by assumption) ?_ ?_; k_whole; first | (intro o9 ho9 t9 h9 tk9 F9 N9; (try dsimp only); (try k_sweep)) | (intro o9 ho9 e9 t9 u9 h9 tk9 R9 U9; (try dsimp only)))))) | with_reducible ((with_reducible show ite _ _ _); first | (refine ite_pos (by ((try simp only [decide_eq_true_eq, beq_iff_eq, bne_iff_ne, ne_eq, Bool.not_eq_true']); omega)) ?_; walk_say "m ite +") | (refine ite_neg (by ((try simp only [decide_eq_true_eq, beq_iff_eq, bne_iff_ne, ne_eq, Bool.not_eq_true']); omega)) ?_; walk_say "m ite -")) | with_reducible ((with_reducible show InvEndN _ _ _ _ _ _ _); refine stop_here ?_)) | walk1 | (dsimp only; walk1) | (leave1; walk_say "STEP leave1"; try dsimp only) | fail "no step"))
      all_goals first
        | (rename RaisedS _ _ _ _ _ _ _ _ _ => rS; rename Heap.UpToSlots _ _ => rU; rename Hid (a2bOut _ _ _ = .error _) => hm; exact herr.out _ hm.out _ _ _ _ _ rS rU)
        | ((try k_unfold); (try dsimp only); rename Fr _ _ _ _ => nF; rename Hid (a2bOut _ _ _ = .ok _) => hm; exact hret.out _ hm.out _ _ _ nF.keep)
    | str x t2 hx hz =>
      have hav : AsBytes (.str x t2) (asciiOf x) := .str x t2 hx hz
      clear hx hz
      generalize asciiOf x = a at *
      (repeat' (first | (k_unfold; (try dsimp only)) | (first | with_reducible ((with_reducible show wpAny _ _ (leaving _ (Value.ref _)) _ _ _); (k_here; (refine' leave_onS (by assumption) (by assumption) (by assumption) (by assumption) ?_; k_whole; intro h' S' R' U'; (try dsimp only at S' R' U' ⊢)))) | with_reducible ((with_reducible show wpAny _ _ (call (Value.builtin "bytes.translate") _ _) _ _ _); (refine translate_call (by first | exact mkTrans_size _ _ | rfl | decide +kernel) (by first | assumption | omega) ?_; intro t9 k9; (try dsimp only))) | with_reducible ((with_reducible show wpAny _ _ (call (Value.builtin "bytes.maketrans") _ _) _ _ _); (refine maketrans_call (by first | rfl | assumption | (simp only [List.size_toArray, List.length_cons, List.length_nil]; omega)) ?_; intro t9 k9; (try dsimp only))) | ((with_reducible show wpAny _ _ (call (Value.builtin "bytes.maketrans") _ _) _ _ _); (refine maketrans_call (by first | rfl | assumption | (simp only [List.size_toArray, List.length_cons, List.length_nil]; omega)) ?_; intro t9 k9; (try dsimp only))) | with_reducible ((with_reducible show wpAny _ _ (getMethod (Value.type "bytes") _ _) _ _ _); (k_here; refine' method_type (by k_asm) (by k_asm) (by exact meta_bytes) (by decide +kernel) (by k_dflt k_is) (by k_handed) ?_)) | with_reducible (k_here; (with_reducible show wpAny _ _ (getMethod (Value.bytes _ _) (Str.ofString "translate") _) _ _ _); (with_reducible refine KBd.method_of _ (typeIs_bytes _ _ _) slot_translate type_translate KBd.noRef ?_)) | with_reducible ((with_reducible show wpAny _ _ (call (Value.ref _) _ _) _ _ _); (k_here; first | ((with_reducible show wpAny _ _ (call (Value.ref 76) _ _) _ _ _); k_dflt (refine' bfd_use (by k_asm) (by k_asm) (by k_asm) (by k_asm) (by k_asm) (by exact rfl) (by exact rfl) (by exact rfl) (by exact rfl) (by exact Nat.le_of_ble_eq_true rfl) (by exact Nat.le_of_ble_eq_true rfl) (by assumption) ?_; k_whole; intro t9 h9 tk9 F9 N9; (try dsimp only); (try k_sweep))) | ((with_reducible show wpAny _ _ (call (Value.ref 125) _ _) _ _ _); k_dflt (refine' a2b_use (by k_asm) (by k_asm) (by k_asm) (by k_asm) (by k_asm) (by exact rfl) (by exact rfl) (by exact rfl) (by exact rfl) (by exact Nat.le_of_ble_eq_true rfl) (by exact Nat.le_of_ble_eq_true rfl) (by assumption) ?_ ?_; k_whole; first | (intro o9 ho9 t9 h9 tk9 F9 N9; (try dsimp only); (try k_sweep)) | (intro o9 ho9 e9 t9 u9 h9 tk9 R9 U9; (try dsimp only)))))) | with_reducible ((with_reducible show ite _ _ _); first | (refine ite_pos (by ((try simp only [decide_eq_true_eq, beq_iff_eq, bne_iff_ne, ne_eq, Bool.not_eq_true']); omega)) ?_; walk_say "m ite +") | (refine ite_neg (by ((try simp only [decide_eq_true_eq, beq_iff_eq, bne_iff_ne, ne_eq, Bool.not_eq_true']); omega)) ?_; walk_say "m ite -")) | with_reducible ((with_reducible show InvEndN _ _ _ _ _ _ _); refine stop_here ?_)) | walk1 | (dsimp only; walk1) | (leave1; walk_say "STEP leave1"; try dsimp only) | fail "no step"))
      all_goals first
        | (rename RaisedS _ _ _ _ _ _ _ _ _ => rS; rename Heap.UpToSlots _ _ => rU; rename Hid (a2bOut _ _ _ = .error _) => hm; exact herr.out _ hm.out _ _ _ _ _ rS rU)
        | ((try k_unfold); (try dsimp only); rename Fr _ _ _ _ => nF; rename Hid (a2bOut _ _ _ = .ok _) => hm; exact hret.out _ hm.out _ _ _ nF.keep)

section
variable {w : World} {loose : List Str} {mean : ExcName → Option Value} {mg mb : Str → Option Value} {A₀ A : Around} {base h₀ : Heap} {outer : List Env} {s : Shared} {Q E : Value → Shared → Prop} {L : Addr} {m : Str → Option Value} {news : List (Addr × Obj)} {env : Env}
theorem b64decode_use0 {v : Value} {b : Array UInt8} {xs : List Int} {k : Nat} (B : Below A₀ base outer h₀) (F : Fr h₀ L s.heap m) (X : (hd.heap_1 w.params).In h₀) (N : News h₀ L s.heap news) (T : Top topProg loose mean mg mb h₀)
    (hA : A.frames = some (env :: outer)) (hf : env.frame = some L) (hk : env.scope.kind = .function) (hh : A.handled = none) (hd : A.depth ≤ 880) (hu : A.units ≤ 8800)
    (hv : AsBytes v b) (hb : b.size ≤ 16777216) (hD : Hid (Dec false b xs k))
    (h : ∀ out, Hid (a2bOut false xs k = .ok out) → ∀ t' h' tk', Fr h₀ L h' m → News h₀ L h' news → Q (.bytes (byteArr out) t') { s with heap := h', toks := tk' })
    (he : ∀ msg, Hid (a2bOut false xs k = .error msg) → ∀ e t' u h' tk', RaisedS base s.heap (env :: outer) e (.ref 86) t' [.str msg u] [] h' → s.heap.UpToSlots h' → E (.ref e) { s with heap := h', toks := tk' }) :
    wpAny (model Challenge.rw_qh0096_01.row.prog w) A (call (.ref 149) [v]) Q E s :=
  wpAny_lower (b64decode_ok (Here.down B F X T rfl hf hk) hv .none0 hb hD ⟨fun out ho h' tk' t' k => h out ⟨ho⟩ t' h' tk' (frAfter F k) (newsAfter N k)⟩ ⟨fun msg hm e t' u h' tk' R U => he msg ⟨hm⟩ e t' u h' tk' R U⟩) hh hA hd hu
end
theorem trans_size_le {T b : Array UInt8} {n : Nat} (h : b.size ≤ n) : (trans T b).size ≤ n := by unfold trans; rw [Array.size_map]; exact h
theorem dec_tab {strict : Bool} {b T T' : Array UInt8} {xs : List Int} {k : Nat} (e : T' = T) (h : Hid (Dec strict (trans T' b) xs k)) : Hid (Dec strict (trans T b) xs k) := e ▸ h

theorem standard_decode {w : World} {loose : List Str} {mean : ExcName → Option Value} {mg mb : Str → Option Value} {base : Heap} {outer : List Env} {gd : Option (List Code)} {s : Shared} {Q E : Value → Shared → Prop} {v : Value} {b : Array UInt8} {xs : List Int} {k : Nat}
    (H : Here w loose mean mg mb (Aat 870 8700 outer gd) base outer s.heap) (hv : AsBytes v b) (hb : b.size ≤ 16777216) (hD : Hid (Dec false b xs k))
    (hret : Hid (∀ out, a2bOut false xs k = .ok out → ∀ h' tk' t', Keeps s.heap h' → Q (.bytes (byteArr out) t') { s with heap := h', toks := tk' }))
    (herr : Hid (∀ msg, a2bOut false xs k = .error msg → ∀ e t' u h' tk', RaisedS base s.heap outer e (.ref 86) t' [.str msg u] [] h' → s.heap.UpToSlots h' → E (.ref e) { s with heap := h', toks := tk' })) :
    wpAny (model Challenge.rw_qh0096_01.row.prog w) (Aat 870 8700 outer gd) (call (.ref 163) [v]) Q E s := by
  have X := H.X
  revert X; k_fill; intro X
  refine' enter [(Str.ofString "s", v)] H ?k6 ?k7 ?k8 ?k9 ?kB ?_ ?c2 ?c3 ?c4 ?c5
  (k_dflt ((case k6 => k_is); (case k7 => k_is); (case k8 => k_room); (case k9 => first | exact BindsTo.of_eq rfl | exact binds_K (by k_in) rfl (by k_is) rfl rfl rfl); (case c5 => decide); (case kB => exact locs rfl); (case c2 => exact rfl); (case c3 => exact rfl); (case c4 => exact rfl)))
  clear H X
  intro L' h' tk' F' N' B' X' T'
  try dsimp only
  k_fold
  (repeat' (first | (k_unfold; (try dsimp only)) | (first | with_reducible ((with_reducible show wpAny _ _ (call (Value.ref _) _ _) _ _ _); (k_here; ((with_reducible show wpAny _ _ (call (Value.ref 149) _ _) _ _ _); k_dflt (refine' b64decode_use0 (by k_asm) (by k_asm) (by k_asm) (by k_asm) (by k_asm) (by exact rfl) (by exact rfl) (by exact rfl) (by exact rfl) (by exact Nat.le_of_ble_eq_true rfl) (by exact Nat.le_of_ble_eq_true rfl) (by first | assumption | exact .bytes _ _) (by first | assumption | exact trans_size_le (by assumption)) (by first | assumption | (refine dec_tab ?_ (by assumption); decide +kernel)) ?_ ?_; k_whole; first | (intro o9 ho9 t9 h9 tk9 F9 N9; (try dsimp only); (try k_sweep)) | (intro o9 ho9 e9 t9 u9 h9 tk9 R9 U9; (try dsimp only)))))) | with_reducible ((with_reducible show wpAny _ _ (leaving _ (Value.ref _)) _ _ _); (k_here; (refine' leave_onS (by assumption) (by assumption) (by assumption) (by assumption) ?_; k_whole; intro h' S' R' U'; (try dsimp only at S' R' U' ⊢)))) | with_reducible ((with_reducible show wpAny _ _ (call (Value.builtin "bytes.translate") _ _) _ _ _); (refine translate_call (by first | exact mkTrans_size _ _ | rfl | decide +kernel) (by first | assumption | omega) ?_; intro t9 k9; (try dsimp only))) | with_reducible ((with_reducible show wpAny _ _ (call (Value.builtin "bytes.maketrans") _ _) _ _ _); (refine maketrans_call (by first | rfl | assumption | (simp only [List.size_toArray, List.length_cons, List.length_nil]; omega)) ?_; intro t9 k9; (try dsimp only))) | ((with_reducible show wpAny _ _ (call (Value.builtin "bytes.maketrans") _ _) _ _ _); (refine maketrans_call (by first | rfl | assumption | (simp only [List.size_toArray, List.length_cons, List.length_nil]; omega)) ?_; intro t9 k9; (try dsimp only))) | with_reducible ((with_reducible show wpAny _ _ (getMethod (Value.type "bytes") _ _) _ _ _); (k_here; refine' method_type (by k_asm) (by k_asm) (by exact meta_bytes) (by decide +kernel) (by k_dflt k_is) (by k_handed) ?_)) | with_reducible (k_here; (with_reducible show wpAny _ _ (getMethod (Value.bytes _ _) (Str.ofString "translate") _) _ _ _); (with_reducible refine KBd.method_of _ (typeIs_bytes _ _ _) slot_translate type_translate KBd.noRef ?_)) | with_reducible ((with_reducible show wpAny _ _ (call (Value.ref _) _ _) _ _ _); (k_here; first | ((with_reducible show wpAny _ _ (call (Value.ref 76) _ _) _ _ _); k_dflt (refine' bfd_use (by k_asm) (by k_asm) (by k_asm) (by k_asm) (by k_asm) (by exact rfl) (by exact rfl) (by exact rfl) (by exact rfl) (by exact Nat.le_of_ble_eq_true rfl) (by exact Nat.le_of_ble_eq_true rfl) (by assumption) ?_; k_whole; intro t9 h9 tk9 F9 N9; (try dsimp only); (try k_sweep))) | ((with_reducible show wpAny _ _ (call (Value.ref 125) _ _) _ _ _); k_dflt (refine' a2b_use (by k_asm) (by k_asm) (by k_asm) (by k_asm) (by k_asm) (by exact rfl) (by exact rfl) (by exact rfl) (by exact rfl) (by exact Nat.le_of_ble_eq_true rfl) (by exact Nat.le_of_ble_eq_true rfl) (by assumption) ?_ ?_; k_whole; first | (intro o9 ho9 t9 h9 tk9 F9 N9; (try dsimp only); (try k_sweep)) | (intro o9 ho9 e9 t9 u9 h9 tk9 R9 U9; (try dsimp only)))))) | with_reducible ((with_reducible show ite _ _ _); first | (refine ite_pos (by ((try simp only [decide_eq_true_eq, beq_iff_eq, bne_iff_ne, ne_eq, Bool.not_eq_true']); omega)) ?_; walk_say "m ite +") | (refine ite_neg (by ((try simp only [decide_eq_true_eq, beq_iff_eq, bne_iff_ne, ne_eq, Bool.not_eq_true']); omega)) ?_; walk_say "m ite -")) | with_reducible ((with_reducible show InvEndN _ _ _ _ _ _ _); refine stop_here ?_)) | walk1 | (dsimp only; walk1) | (leave1; walk_say "STEP leave1"; try dsimp only) | fail "no step"))
  all_goals first
    | (rename RaisedS _ _ _ _ _ _ _ _ _ => rS; rename Heap.UpToSlots _ _ => rU; rename Hid (a2bOut _ _ _ = .error _) => hm; exact herr.out _ hm.out _ _ _ _ _ rS rU)
    | ((try k_unfold); (try dsimp only); rename Fr _ _ _ _ => nF; rename Hid (a2bOut _ _ _ = .ok _) => hm; exact hret.out _ hm.out _ _ _ nF.keep)

def urlTab : Array UInt8 := mkTrans #[45, 95] #[43, 47]
theorem urlsafe_decode {w : World} {loose : List Str} {mean : ExcName → Option Value} {mg mb : Str → Option Value} {base : Heap} {outer : List Env} {gd : Option (List Code)} {s : Shared} {Q E : Value → Shared → Prop} {v : Value} {b : Array UInt8} {xs : List Int} {k : Nat}
    (H : Here w loose mean mg mb (Aat 870 8700 outer gd) base outer s.heap) (hv : AsBytes v b) (hb : b.size ≤ 16777216) (hD : Hid (Dec false (decIn (some #[45, 95]) b) xs k))
    (hret : Hid (∀ out, a2bOut false xs k = .ok out → ∀ h' tk' t', Keeps s.heap h' → Q (.bytes (byteArr out) t') { s with heap := h', toks := tk' }))
    (herr : Hid (∀ msg, a2bOut false xs k = .error msg → ∀ e t' u h' tk', RaisedS base s.heap outer e (.ref 86) t' [.str msg u] [] h' → s.heap.UpToSlots h' → E (.ref e) { s with heap := h', toks := tk' })) :
    wpAny (model Challenge.rw_qh0096_01.row.prog w) (Aat 870 8700 outer gd) (call (.ref 177) [v]) Q E s := by
  have X := H.X
  revert X; k_fill; intro X
  refine' enter [(Str.ofString "s", v)] H ?k6 ?k7 ?k8 ?k9 ?kB ?_ ?c2 ?c3 ?c4 ?c5
  (k_dflt ((case k6 => k_is); (case k7 => k_is); (case k8 => k_room); (case k9 => first | exact BindsTo.of_eq rfl | exact binds_K (by k_in) rfl (by k_is) rfl rfl rfl); (case c5 => decide); (case kB => exact locs rfl); (case c2 => exact rfl); (case c3 => exact rfl); (case c4 => exact rfl)))
  clear H X
  intro L' h' tk' F' N' B' X' T'
  try dsimp only
  k_fold
  dsimp only [decIn] at hD
  (repeat' (first | (k_unfold; (try dsimp only)) | (first | with_reducible ((with_reducible show wpAny _ _ (call (Value.ref _) _ _) _ _ _); (k_here; ((with_reducible show wpAny _ _ (call (Value.ref 149) _ _) _ _ _); k_dflt (refine' b64decode_use0 (by k_asm) (by k_asm) (by k_asm) (by k_asm) (by k_asm) (by exact rfl) (by exact rfl) (by exact rfl) (by exact rfl) (by exact Nat.le_of_ble_eq_true rfl) (by exact Nat.le_of_ble_eq_true rfl) (by first | assumption | exact .bytes _ _) (by first | assumption | exact trans_size_le (by assumption)) (by first | assumption | (refine dec_tab ?_ (by assumption); decide +kernel)) ?_ ?_; k_whole; first | (intro o9 ho9 t9 h9 tk9 F9 N9; (try dsimp only); (try k_sweep)) | (intro o9 ho9 e9 t9 u9 h9 tk9 R9 U9; (try dsimp only)))))) | with_reducible ((with_reducible show wpAny _ _ (leaving _ (Value.ref _)) _ _ _); (k_here; (refine' leave_onS (by assumption) (by assumption) (by assumption) (by assumption) ?_; k_whole; intro h' S' R' U'; (try dsimp only at S' R' U' ⊢)))) | with_reducible ((with_reducible show wpAny _ _ (call (Value.builtin "bytes.translate") _ _) _ _ _); (refine translate_call (by first | exact mkTrans_size _ _ | rfl | decide +kernel) (by first | assumption | omega) ?_; intro t9 k9; (try dsimp only))) | with_reducible ((with_reducible show wpAny _ _ (call (Value.builtin "bytes.maketrans") _ _) _ _ _); (refine maketrans_call (by first | rfl | assumption | (simp only [List.size_toArray, List.length_cons, List.length_nil]; omega)) ?_; intro t9 k9; (try dsimp only))) | ((with_reducible show wpAny _ _ (call (Value.builtin "bytes.maketrans") _ _) _ _ _); (refine maketrans_call (by first | rfl | assumption | (simp only [List.size_toArray, List.length_cons, List.length_nil]; omega)) ?_; intro t9 k9; (try dsimp only))) | with_reducible ((with_reducible show wpAny _ _ (getMethod (Value.type "bytes") _ _) _ _ _); (k_here; refine' method_type (by k_asm) (by k_asm) (by exact meta_bytes) (by decide +kernel) (by k_dflt k_is) (by k_handed) ?_)) | with_reducible (k_here; (with_reducible show wpAny _ _ (getMethod (Value.bytes _ _) (Str.ofString "translate") _) _ _ _); (with_reducible refine KBd.method_of _ (typeIs_bytes _ _ _) slot_translate type_translate KBd.noRef ?_)) | with_reducible ((with_reducible show wpAny _ _ (call (Value.ref _) _ _) _ _ _); (k_here; first | ((with_reducible show wpAny _ _ (call (Value.ref 76) _ _) _ _ _); k_dflt (refine' bfd_use (by k_asm) (by k_asm) (by k_asm) (by k_asm) (by k_asm) (by exact rfl) (by exact rfl) (by exact rfl) (by exact rfl) (by exact Nat.le_of_ble_eq_true rfl) (by exact Nat.le_of_ble_eq_true rfl) (by assumption) ?_; k_whole; intro t9 h9 tk9 F9 N9; (try dsimp only); (try k_sweep))) | ((with_reducible show wpAny _ _ (call (Value.ref 125) _ _) _ _ _); k_dflt (refine' a2b_use (by k_asm) (by k_asm) (by k_asm) (by k_asm) (by k_asm) (by exact rfl) (by exact rfl) (by exact rfl) (by exact rfl) (by exact Nat.le_of_ble_eq_true rfl) (by exact Nat.le_of_ble_eq_true rfl) (by assumption) ?_ ?_; k_whole; first | (intro o9 ho9 t9 h9 tk9 F9 N9; (try dsimp only); (try k_sweep)) | (intro o9 ho9 e9 t9 u9 h9 tk9 R9 U9; (try dsimp only)))))) | with_reducible ((with_reducible show ite _ _ _); first | (refine ite_pos (by ((try simp only [decide_eq_true_eq, beq_iff_eq, bne_iff_ne, ne_eq, Bool.not_eq_true']); omega)) ?_; walk_say "m ite +") | (refine ite_neg (by ((try simp only [decide_eq_true_eq, beq_iff_eq, bne_iff_ne, ne_eq, Bool.not_eq_true']); omega)) ?_; walk_say "m ite -")) | with_reducible ((with_reducible show InvEndN _ _ _ _ _ _ _); refine stop_here ?_)) | walk1 | (dsimp only; walk1) | (leave1; walk_say "STEP leave1"; try dsimp only) | fail "no step"))
  all_goals first
    | (rename RaisedS _ _ _ _ _ _ _ _ _ => rS; rename Heap.UpToSlots _ _ => rU; rename Hid (a2bOut _ _ _ = .error _) => hm; exact herr.out _ hm.out _ _ _ _ _ rS rU)
    | ((try k_unfold); (try dsimp only); rename Fr _ _ _ _ => nF; rename Hid (a2bOut _ _ _ = .ok _) => hm; exact hret.out _ hm.out _ _ _ nF.keep)
end
section
/-- a list that a call made and gave back -/
structure Made (h h' : Heap) (a : Addr) (vs : List Value) (n : Nat) : Prop where
  get : h'.get? a = some (W.listOf vs.toArray n)
  fresh : h.get? a = none
theorem newsMade {h₀ h h' : Heap} {L a : Addr} {m : Str → Option Value} {news : List (Addr × Obj)} {vs : List Value} {n : Nat} (F : Fr h₀ L h m) (N : News h₀ L h news) (k : Keeps h h') (M : Made h h' a vs n) : News h₀ L h' ((a, W.listOf vs.toArray n) :: news) := by
  intro p hp
  rcases List.mem_cons.mp hp with rfl | hp
  · refine ⟨M.get, fun e => ?_, ?_⟩
    · obtain ⟨oL, _, _, hL, _⟩ := F.ns
      have h1 : h.get? a = some oL := by rw [show a = L from e]; exact hL
      rw [M.fresh] at h1; cases h1
    · cases q : h₀.get? a with
      | none => rfl
      | some o => have := F.keep a o q; rw [M.fresh] at this; cases this
  · exact ⟨k _ _ (N p hp).1, (N p hp).2⟩

def kindF (c : Int) : Int := 62 - [-1, 21, 34, -1, 33, -1, 35, -1, 0, -1, 25, -1, 18, -1, -1, -1].getD (c / 4096 % 16).toNat 0
def rightsF (c k : Int) : Int := c / 8 ^ (2 - k).toNat % 8
def aboveF (c k : Int) : Int := c / 2 ^ (11 - k).toNat % 2
def rF (c k : Int) : Int := 62 - rightsF c k / 4 * 19
def wF (c k : Int) : Int := 62 - rightsF c k / 2 % 2 * 14
def xF (c k : Int) : Int := 62 - rightsF c k % 2 * 13 - aboveF c k * (44 - k / 2) + rightsF c k % 2 * aboveF c k * 39
def figsM (c : Int) : List Int := [kindF c, rF c 0, wF c 0, xF c 0, rF c 1, wF c 1, xF c 1, rF c 2, wF c 2, xF c 2]
theorem ints_cast {vs : List Value} {a b : List Int} (h : IntsAre vs a) (e : a = b) : IntsAre vs b := e ▸ h

theorem figures_ok {w : World} {loose : List Str} {mean : ExcName → Option Value} {mg mb : Str → Option Value} {base : Heap} {outer : List Env} {gd : Option (List Code)} {s : Shared} {Q E : Value → Shared → Prop} {c : Int} {t : Tok}
    (H : Here w loose mean mg mb (Aat 900 9000 outer gd) base outer s.heap) (h0 : 0 ≤ c) (h1 : c < 4294967296)
    (hret : Hid (∀ a (vs : List Value) (n : Nat) h' tk', Keeps s.heap h' → Made s.heap h' a vs n → IntsAre vs (figsM c) → Q (.ref a) { s with heap := h', toks := tk' })) :
    wpAny (model Challenge.rw_qh0096_01.row.prog w) (Aat 900 9000 outer gd) (call (.ref 184) [.int c t]) Q E s := by
  have X := H.X
  revert X; k_fill; intro X
  refine' enter [(Str.ofString "mode", .int c t)] H ?k6 ?k7 ?k8 ?k9 ?kB ?_ ?c2 ?c3 ?c4 ?c5
  (k_dflt ((case k6 => k_is); (case k7 => k_is); (case k8 => k_room); (case k9 => first | exact BindsTo.of_eq rfl | exact binds_K (by k_in) rfl (by k_is) rfl rfl rfl); (case c5 => decide); (case kB => exact locs rfl); (case c2 => exact rfl); (case c3 => exact rfl); (case c4 => exact rfl)))
  clear H X
  intro L' h' tk' F' N' B' X' T'
  try dsimp only
  k_fold
  (repeat' (first | (k_unfold; (try dsimp only)) | (first | with_reducible ((with_reducible show ite _ _ _); first | (refine ite_pos (by ((try simp only [decide_eq_true_eq, beq_iff_eq, bne_iff_ne, ne_eq, Bool.not_eq_true']); omega)) ?_; walk_say "m ite +") | (refine ite_neg (by ((try simp only [decide_eq_true_eq, beq_iff_eq, bne_iff_ne, ne_eq, Bool.not_eq_true']); omega)) ?_; walk_say "m ite -")) | with_reducible ((with_reducible show InvEndN _ _ _ _ _ _ _); refine stop_here ?_)) | walk1 | (dsimp only; walk1) | (leave1; walk_say "STEP leave1"; try dsimp only) | fail "no step"))
  all_goals (
    (try k_unfold)
    (try dsimp only)
    rename News _ _ _ _ => nN
    rename Fr _ _ _ _ => nF
    simp only [List.push_toArray, List.cons_append, List.nil_append, List.append_assoc] at nN
    have hm := nN _ (.head _)
    refine hret.out _ _ _ _ _ nF.keep ⟨hm.1, hm.2.2⟩ (ints_cast (.cons _ _ (.cons _ _ (.cons _ _ (.cons _ _ (.cons _ _ (.cons _ _ (.cons _ _ (.cons _ _ (.cons _ _ (.cons _ _ .nil)))))))))) ?_)
    simp [figsM, kindF, rF, wF, xF, rightsF, aboveF, Int.fdiv_eq_ediv_of_nonneg, Int.fmod_eq_emod_of_nonneg])

section
variable {w : World} {loose : List Str} {mean : ExcName → Option Value} {mg mb : Str → Option Value} {A₀ A : Around} {base h₀ : Heap} {outer : List Env} {s : Shared} {Q E : Value → Shared → Prop} {L : Addr} {m : Str → Option Value} {news : List (Addr × Obj)} {env : Env}
theorem figures_use {c : Int} {t : Tok} (B : Below A₀ base outer h₀) (F : Fr h₀ L s.heap m) (X : (hd.heap_1 w.params).In h₀) (N : News h₀ L s.heap news) (T : Top topProg loose mean mg mb h₀)
    (hA : A.frames = some (env :: outer)) (hf : env.frame = some L) (hk : env.scope.kind = .function) (hh : A.handled = none) (hd : A.depth ≤ 900) (hu : A.units ≤ 9000)
    (h0 : 0 ≤ c) (h1 : c < 4294967296)
    (h : ∀ a vs n h' tk', Fr h₀ L h' m → News h₀ L h' ((a, W.listOf vs.toArray n) :: news) → IntsAre vs (figsM c) → Q (.ref a) { s with heap := h', toks := tk' }) :
    wpAny (model Challenge.rw_qh0096_01.row.prog w) A (call (.ref 184) [.int c t]) Q E s :=
  wpAny_lower (figures_ok (Here.down B F X T rfl hf hk) h0 h1 ⟨fun a vs n h' tk' k M hi => h a vs n h' tk' (frAfter F k) (newsMade F N k M) hi⟩) hh hA hd hu
end
end
section
/-! plain: the bits that filemode looks at, the signs of the figures -/
def sgnC (f : Int) : Nat := if f = 62 then 45 else if f = 63 then 63 else (b64codes.getD f.toNat 0).toNat
def sgnS (f : Int) : Str := ⟨#[sgnC f]⟩
theorem and_nat {c : Int} (h : 0 ≤ c) (m : Nat) : Builtin.bitAnd c (m : Int) = ((c.toNat &&& m : Nat) : Int) := by
  unfold Builtin.bitAnd
  rw [decide_eq_true h, decide_eq_true (by omega : (0 : Int) ≤ (m : Int))]
  rfl
theorem nat_and_bit (n i : Nat) : n &&& 2 ^ i = n / 2 ^ i % 2 * 2 ^ i := by
  apply Nat.eq_of_testBit_eq
  intro j
  rw [Nat.testBit_and, Nat.testBit_two_pow, show n / 2 ^ i % 2 * 2 ^ i = 2 ^ i * (n / 2 ^ i % 2 ^ 1) from Nat.mul_comm _ _, Nat.testBit_two_pow_mul, Nat.testBit_mod_two_pow, Nat.testBit_div_two_pow]
  by_cases h : i = j
  · subst h; simp
  · by_cases h2 : i ≤ j
    · have : ¬ j - i < 1 := by omega
      simp [h, this]
    · simp [h, h2]
theorem nat_and_two (n i j : Nat) (hij : i < j) : n &&& (2 ^ i + 2 ^ j) = n / 2 ^ i % 2 * 2 ^ i + n / 2 ^ j % 2 * 2 ^ j := by
  have e : 2 ^ i + 2 ^ j = 2 ^ j ||| 2 ^ i := by
    have := Nat.two_pow_add_eq_or_of_lt (i := j) (b := 2 ^ i) (Nat.pow_lt_pow_right (by decide) hij) 1
    rw [Nat.mul_one] at this
    omega
  have hlt : n / 2 ^ i % 2 * 2 ^ i < 2 ^ j := by
    have h1 : n / 2 ^ i % 2 ≤ 1 := by omega
    have h2 : 2 ^ i < 2 ^ j := Nat.pow_lt_pow_right (by decide) hij
    have := Nat.mul_le_mul_right (2 ^ i) h1
    omega
  rw [e, Nat.and_or_distrib_left, nat_and_bit, nat_and_bit, Nat.mul_comm (n / 2 ^ j % 2)]
  have := Nat.two_pow_add_eq_or_of_lt (i := j) hlt (n / 2 ^ j % 2)
  omega
theorem nat_and_kind (n : Nat) : n &&& 61440 = n / 4096 % 16 * 4096 := by
  apply Nat.eq_of_testBit_eq
  intro i
  rw [Nat.testBit_and, show n / 4096 % 16 * 4096 = 2 ^ 12 * (n / 2 ^ 12 % 2 ^ 4) from Nat.mul_comm _ _, Nat.testBit_two_pow_mul, Nat.testBit_mod_two_pow, Nat.testBit_div_two_pow, show (61440 : Nat) = 2 ^ 12 * (2 ^ 4 - 1) from rfl, Nat.testBit_two_pow_mul, Nat.testBit_two_pow_sub_one]
  by_cases h : 12 ≤ i
  · have e : 12 + (i - 12) = i := by omega
    rw [show i - 12 + 12 = i by omega]
    simp [h, Bool.and_comm]
  · simp [h]
theorem and_kind {c : Int} (h : 0 ≤ c) : Builtin.bitAnd c 61440 = c / 4096 % 16 * 4096 := by
  have := and_nat h 61440
  rw [nat_and_kind] at this
  refine this.trans ?_
  omega
theorem and_bit {c : Int} (h : 0 ≤ c) (i : Nat) {b : Int} (hb : b = ((2 ^ i : Nat) : Int)) : Builtin.bitAnd c b = c / b % 2 * b := by
  subst hb
  have := and_nat h (2 ^ i)
  rw [nat_and_bit] at this
  refine this.trans ?_
  push_cast
  rw [Int.toNat_of_nonneg h]
theorem and_two {c : Int} (h : 0 ≤ c) (i j : Nat) (hij : i < j) {a b d : Int} (hd : d = a + b) (ha : a = ((2 ^ i : Nat) : Int)) (hb : b = ((2 ^ j : Nat) : Int)) : Builtin.bitAnd c d = c / a % 2 * a + c / b % 2 * b := by
  subst hd; subst ha; subst hb
  have := and_nat h (2 ^ i + 2 ^ j)
  rw [nat_and_two _ _ _ hij] at this
  push_cast at this ⊢
  refine this.trans ?_
  rw [Int.toNat_of_nonneg h]

theorem kind_of {c k : Int} (h : c / 4096 % 16 = k) : sgnS (kindF c) = sgnS (kindF (k * 4096)) ∨ ¬ (0 ≤ k ∧ k < 16) := by
  by_cases hk : 0 ≤ k ∧ k < 16
  · refine .inl ?_
    unfold kindF
    rw [h, show k * 4096 / 4096 % 16 = k by omega]
  · exact .inr hk
theorem kind_s {c k : Int} {x : Str} (h : c / 4096 % 16 = k) (h0 : 0 ≤ k ∧ k < 16) (e : sgnS (kindF (k * 4096)) = x) : x = sgnS (kindF c) := by
  rcases kind_of h with h | h
  · rw [h, e]
  · exact absurd h0 h
theorem kind_q {c : Int} (h : ∀ k ∈ [10, 12, 8, 6, 4, 2, 1], c / 4096 % 16 ≠ k) : Str.ofString "?" = sgnS (kindF c) := by
  simp only [List.forall_mem_cons] at h
  have : c / 4096 % 16 = 0 ∨ c / 4096 % 16 = 3 ∨ c / 4096 % 16 = 5 ∨ c / 4096 % 16 = 7 ∨ c / 4096 % 16 = 9 ∨ c / 4096 % 16 = 11 ∨ c / 4096 % 16 = 13 ∨ c / 4096 % 16 = 14 ∨ c / 4096 % 16 = 15 := by omega
  rcases this with h | h | h | h | h | h | h | h | h <;> exact kind_s h (by decide) (by decide +kernel)
theorem r_yes {c k : Int} (h : rightsF c k / 4 = 1) : Str.ofString "r" = sgnS (rF c k) := by unfold rF; rw [h]; decide +kernel
theorem r_no {c k : Int} (h : rightsF c k / 4 = 0) : Str.ofString "-" = sgnS (rF c k) := by unfold rF; rw [h]; decide +kernel
theorem w_yes {c k : Int} (h : rightsF c k / 2 % 2 = 1) : Str.ofString "w" = sgnS (wF c k) := by unfold wF; rw [h]; decide +kernel
theorem w_no {c k : Int} (h : rightsF c k / 2 % 2 = 0) : Str.ofString "-" = sgnS (wF c k) := by unfold wF; rw [h]; decide +kernel
theorem x_s {c k : Int} (h : rightsF c k % 2 = 1) (h2 : aboveF c k = 1) (hk : k = 0 ∨ k = 1) : Str.ofString "s" = sgnS (xF c k) := by unfold xF; rw [h, h2]; rcases hk with rfl | rfl <;> decide +kernel
theorem x_S {c k : Int} (h : rightsF c k % 2 = 0) (h2 : aboveF c k = 1) (hk : k = 0 ∨ k = 1) : Str.ofString "S" = sgnS (xF c k) := by unfold xF; rw [h, h2]; rcases hk with rfl | rfl <;> decide +kernel
theorem x_t {c k : Int} (h : rightsF c k % 2 = 1) (h2 : aboveF c k = 1) (hk : k = 2) : Str.ofString "t" = sgnS (xF c k) := by unfold xF; rw [h, h2]; subst hk; decide +kernel
theorem x_T {c k : Int} (h : rightsF c k % 2 = 0) (h2 : aboveF c k = 1) (hk : k = 2) : Str.ofString "T" = sgnS (xF c k) := by unfold xF; rw [h, h2]; subst hk; decide +kernel
theorem x_x {c k : Int} (h : rightsF c k % 2 = 1) (h2 : aboveF c k = 0) (hk : k = 0 ∨ k = 1 ∨ k = 2) : Str.ofString "x" = sgnS (xF c k) := by unfold xF; rw [h, h2]; rcases hk with rfl | rfl | rfl <;> decide +kernel
theorem x_no {c k : Int} (h : rightsF c k % 2 = 0) (h2 : aboveF c k = 0) (hk : k = 0 ∨ k = 1 ∨ k = 2) : Str.ofString "-" = sgnS (xF c k) := by unfold xF; rw [h, h2]; rcases hk with rfl | rfl | rfl <;> decide +kernel
theorem rights_0 (c : Int) : rightsF c 0 = c / 64 % 8 := rfl
theorem rights_1 (c : Int) : rightsF c 1 = c / 8 % 8 := rfl
theorem rights_2 (c : Int) : rightsF c 2 = c / 1 % 8 := rfl
theorem above_0 (c : Int) : aboveF c 0 = c / 2048 % 2 := rfl
theorem above_1 (c : Int) : aboveF c 1 = c / 1024 % 2 := rfl
theorem above_2 (c : Int) : aboveF c 2 = c / 512 % 2 := rfl
/-- one more sign -/
theorem strs_snoc {vs : List Value} {ys : List Str} {x y : Str} {t : Tok} (h : StrsAre vs ys) (e : x = y) : StrsAre (vs ++ [.str x t]) (ys ++ [y]) := by
  subst e
  induction h with
  | nil => exact .cons _ _ .nil
  | cons y t _ ih => exact .cons _ _ ih
theorem strs_length {vs : List Value} {ys : List Str} (h : StrsAre vs ys) : vs.length = ys.length := by
  induction h with
  | nil => rfl
  | cons _ _ _ ih => simp [ih]
end
section
open PySem.AutoSeq1 (wpAny_loadPart')
/-! enumerate over a tuple; a for with an else, a turn at a time -/
section
variable {prog : Program} {w : World} {A : Around} {E : Value → Shared → Prop} {s : Shared}
theorem nextOf_tuple_item {it t : Addr} {i : Nat} {items : Array Value} {x : Value} {Q : Value → Shared → Prop} (hit : s.heap.IsTupleIter it t i) (ht : s.heap.IsTuple t items) (hx : items[i]? = some x)
    (hQ : ∀ h', h'.IsTupleIter it t (i + 1) → Heap.SameBut it s.heap h' → Q x { s with heap := h' }) : wpAny (model prog w) A (Builtin.SmallTypes.nextOf (.ref it)) Q E s := by
  obtain ⟨o, ho, hc, hd⟩ := id hit
  obtain ⟨ol, hol, _, nl, hdl⟩ := ht
  unfold Builtin.SmallTypes.nextOf
  refine wpAny_bind (wpAny_callSpecial?_slot (name := Str.ofString "__next__") hit.typeIs F.slot_tuple_iterator_next (wpAny_call_entry F.slot_tuple_iterator_next hit.typeIs F.entry_tuple_iterator_next ?_ (F.args_tuple_iterator_next_1 _)))
  show wpAny _ _ (field (.ref it) 0 >>= _) _ _ s
  refine wpAny_bind (wpAny_field ho hd (x := .ref t) rfl ?_)
  show wpAny _ _ (if (Value.ref t == Value.none) = true then _ else _) _ _ s
  rw [if_neg (show ¬ ((Value.ref t == Value.none) = true) from Bool.false_ne_true)]
  show wpAny _ _ (field (.ref it) 1 >>= _) _ _ s
  refine wpAny_bind (wpAny_field ho hd (x := .int i 0) rfl ?_)
  show wpAny _ _ (seqItems? (.ref t) >>= _) _ _ s
  refine wpAny_bind (wpAny_seqItems hol hdl ?_)
  simp only [Int.toNat_natCast, hx]
  refine wpAny_bind (wpAny_setField ho hd (by simp) (wpAny_pure ⟨x, rfl, wpAny_pure (hQ _ ?_ (Heap.SameBut.update ..))⟩))
  refine ⟨_, Heap.get?_update_self _ ho (Obj.isFreed_of_fields (Obj.data_mapFields hd _)), (Obj.cls_mapFields ..).trans hc, ?_⟩
  rw [Obj.data_mapFields hd]; simp [rawInt]
theorem nextOf_tuple_end {it t : Addr} {i : Nat} {items : Array Value} {Q : Value → Shared → Prop} (hh : A.handled = none) (hit : s.heap.IsTupleIter it t i) (ht : s.heap.IsTuple t items) (hx : items[i]? = none)
    (hE : ∀ h' e, Heap.ExtBut it s.heap h' → (∃ o, h'.get? e = some o ∧ o.cls = .type "StopIteration") → E (.ref e) { s with heap := h' }) : wpAny (model prog w) A (Builtin.SmallTypes.nextOf (.ref it)) Q E s := by
  obtain ⟨o, ho, hc, hd⟩ := id hit
  obtain ⟨ol, hol, _, nl, hdl⟩ := ht
  unfold Builtin.SmallTypes.nextOf
  refine wpAny_bind (wpAny_callSpecial?_slot (name := Str.ofString "__next__") hit.typeIs F.slot_tuple_iterator_next (wpAny_call_entry F.slot_tuple_iterator_next hit.typeIs F.entry_tuple_iterator_next ?_ (F.args_tuple_iterator_next_1 _)))
  show wpAny _ _ (field (.ref it) 0 >>= _) _ _ s
  refine wpAny_bind (wpAny_field ho hd (x := .ref t) rfl ?_)
  show wpAny _ _ (if (Value.ref t == Value.none) = true then _ else _) _ _ s
  rw [if_neg (show ¬ ((Value.ref t == Value.none) = true) from Bool.false_ne_true)]
  show wpAny _ _ (field (.ref it) 1 >>= _) _ _ s
  refine wpAny_bind (wpAny_field ho hd (x := .int i 0) rfl ?_)
  show wpAny _ _ (seqItems? (.ref t) >>= _) _ _ s
  refine wpAny_bind (wpAny_seqItems hol hdl ?_)
  simp only [Int.toNat_natCast, hx]
  refine wpAny_bind (wpAny_rule (wpAny_bind (wpAny_setField ho hd (by simp) ?_)))
  show wpAny _ _ (newExc (.type "StopIteration") [] >>= _) _ _ _
  refine wpAny_bind ?_
  simp only [newExc, newTuple]
  refine wpAny_bind (wpAny_newObj_type ?_ (by size_fits))
  refine wpAny_bind (m := firstArgMember _ _) (wpAny_of_eq (a := Value.none) (by first | rfl | (simp only [firstArgMember]; rfl)) ?_)
  refine wpAny_newObj_type ?_ (by size_fits)
  simp only [raiseNew]
  refine wpAny_bind (wpAny_handled ?_)
  first | rw [show A.in1.handled = none from hh] | rw [hh]
  refine wpAny_bind (wpAny_pure (wpAny_throw ?_))
  exact hE _ _ (((Heap.SameBut.update ..).extBut.push _).push _) ⟨_, Heap.get?_push_size _ rfl, rfl⟩
theorem draws_tuple (hh : A.handled = none) (it l : Addr) (hne : l ≠ it) (items : Array Value) :
    Draws prog w A it [it, l] items.size (fun i v => items[i]? = some v) (fun i h => h.IsTupleIter it l i ∧ h.IsTuple l items) where
  live := fun _ _ st => let ⟨o, ho, _⟩ := st.1; ⟨o, ho⟩
  frame := fun _ _ _ st hk => ⟨let ⟨o, ho, r⟩ := st.1; ⟨o, hk it (by simp) o ho, r⟩, let ⟨o, ho, r⟩ := st.2; ⟨o, hk l (by simp) o ho, r⟩⟩
  item := fun i s Q E hi st hQ => nextOf_tuple_item st.1 st.2 (x := items[i]) (by simp [hi]) fun h' hit' hs' => hQ _ h' s.toks (by simp [hi]) ⟨hit', st.2.extBut hs'.extBut hne⟩ hs'
  done := fun s Q E st hE => nextOf_tuple_end hh st.1 st.2 (by simp) hE

def enumObj (it : Addr) : Obj := { cls := .type "enumerate", data := .fields #[.none, .bool false, .ref it, rawInt 0, .none, .none] }
def tupIt (l : Addr) : Obj := { cls := .type "tuple_iterator", data := .fields #[.ref l, .int 0 0] }
theorem meets_enum_tuple (l : Addr) (o : Obj) (items : Array Value) (n : Nat) (hc : o.cls = .type "tuple") (hd : o.data = .seq items n) :
    Meets (Builtin.«enumerate.__new__» ⟨[.type "enumerate", .ref l], []⟩) (fun _ R s => s.heap.get? l = some o ∧
      R (.ok (.ret (.ref (s.heap.push (tupIt l)).objs.size))) { s with heap := (s.heap.push (tupIt l)).push (enumObj s.heap.objs.size) }) :=
  .of_wp fun prog w A R s h => by
    obtain ⟨hp, g, d, tk, os⟩ := s
    obtain ⟨hl, h⟩ := h
    have hsub := sub_enumerate
    have hL : Heap.IsTuple (Shared.heap ⟨hp, g, d, tk, os⟩) l items := ⟨_, hl, hc, n, hd⟩
    wp_walk using wpAny_loadPart' hl
    refine wpAny_stack_any fun st => wpAny_pure ?_
    split
    · rename_i c _ _ _ _ _
      cases (c == Value.type "enumerate")
      · wp_walk using wpAny_loadPart' hl, wpAny_pyIter_tuple hL
        exact ⟨_, rfl, h⟩
      · wp_walk using wpAny_loadPart' hl, wpAny_pyIter_tuple hL
        exact ⟨_, rfl, h⟩
    · wp_walk using wpAny_loadPart' hl, wpAny_pyIter_tuple hL
      exact ⟨_, rfl, h⟩
theorem call_enum_tuple {l : Addr} {items : Array Value} {Q : Value → Shared → Prop} (hL : s.heap.IsTuple l items)
    (h : ∀ h', IsEnum h' (s.heap.objs.size + 1) s.heap.objs.size 0 .none → h'.IsTupleIter s.heap.objs.size l 0 → Keeps s.heap h' → Q (.ref (s.heap.objs.size + 1)) { s with heap := h' }) :
    wpAny (model prog w) A (call (.type "enumerate") [.ref l]) Q E s := by
  obtain ⟨o, hl, hc, n, hd⟩ := hL
  refine callType_new F.called_enumerate (by decide) (F.typeCall_enumerate_1 _) (F.newCall_enumerate_1 _) (fun obj => F.args_object_init_2 obj _) F.entry_enumerate_new (meets_enum_tuple l o items n hc hd) ⟨hl, ?_⟩
  have hz : (s.heap.push (tupIt l)).objs.size = s.heap.objs.size + 1 := Heap.size_push ..
  show _ ∧ _
  rw [hz]
  have he : IsEnum ((s.heap.push (tupIt l)).push (enumObj s.heap.objs.size)) (s.heap.objs.size + 1) s.heap.objs.size 0 .none := by
    have := Heap.get?_push_size (s.heap.push (tupIt l)) (o := enumObj s.heap.objs.size) rfl
    rw [hz] at this; exact this
  exact ⟨⟨_, he, rfl⟩, h _ he ⟨_, Heap.get?_push_of_some _ (Heap.get?_push_size _ rfl), rfl, rfl⟩ fun b o x => Heap.get?_push_of_some _ (Heap.get?_push_of_some _ x)⟩
end

section
variable {prog : Program} {w : World} {A : Around} {E : Value → Shared → Prop} {s : Shared} {env : Env} {target : Expr} {body orelse : List Stmt} {Q : Flow → Shared → Prop}
/-- what is left of a for -/
def ForRest (prog : Program) (w : World) (A : Around) (E : Value → Shared → Prop) (env : Env) (target : Expr) (I : Addr) (body orelse : List Stmt) (Q : Flow → Shared → Prop) (s : Shared) : Prop :=
  codeAny (model prog w) A (.forLoop target (.ref I) body orelse env) (fun r s' => match r with | .ok f => Q f s' | .error e => cameBackBy (model prog w) A env E e s') s
def ForPost (prog : Program) (w : World) (A : Around) (E : Value → Shared → Prop) (env : Env) (target : Expr) (I : Addr) (body orelse : List Stmt) (Q : Flow → Shared → Prop) (f : Flow) (s : Shared) : Prop :=
  match f with
  | .ret v => Q (.ret v) s
  | .brk => Q .next s
  | _ => ForRest prog w A E env target I body orelse Q s
def ForAt (prog : Program) (w : World) (A : Around) (E : Value → Shared → Prop) (env : Env) (target : Expr) (body orelse : List Stmt) (Q : Flow → Shared → Prop) (it : Value) (s : Shared) : Prop :=
  ∃ I, it = .ref I ∧ ForRest prog w A E env target I body orelse Q s
theorem for_start {iter : Expr} {pos : Pos}
    (h : wpAny (model prog w) A (eval iter env) (fun xv s₁ => wpAny (model prog w) A (pyIter xv) (fun it s₂ => ForAt prog w A E env target body orelse Q it s₂) E s₁) E s)
    (hs : ∀ x, foldedSetIterable iter env x = pure x) : wpAny (model prog w) A (exec (.For target iter body orelse pos) env) Q E s := by
  refine wpAny_For (wpAny_mono h (fun xv s₁ h₁ => wpAny_mono h₁ (fun it s₂ h₂ => ?_) fun _ _ e => e) fun _ _ e => e) hs
  obtain ⟨I, rfl, h₃⟩ := h₂
  exact h₃
theorem for_turn {I : Addr} (hE : PassesOwn (model prog w) A env E)
    (h : wpAny (model prog w) A (pyNext (.ref I)) (fun r s₁ => match r with
      | none => wpAny (model prog w) A (execs orelse env) Q E s₁
      | some v => wpAny (model prog w) A (letOwnedTupleGo target (.ref I) v) (fun _ s₂ => wpAny (model prog w) A (assign target env v) (fun _ s₃ => wpAny (model prog w) A (execs body env) (ForPost prog w A E env target I body orelse Q) E s₃) E s₂) E s₁) E s) :
    ForRest prog w A E env target I body orelse Q s := by
  refine codeAny_of_tree ?_
  show wpAny _ A ((forTurn target (.ref I) body orelse env).onRaise (fun x => do noteFrame x env; theTreesLotGoes x)) _ _ s
  refine wpAny_noted ?_
  simp only [forTurn]
  refine wpAny_bind (wpAny_standAt (wpAny_bind (wpAny_onRaise (wpAny_mono h (fun r s₁ h₁ => ?_) fun e s' x => wpAny_standAt (hE e s' x)))))
  cases r with
  | none => exact wpAny_pure ⟨rfl, codeAny_block (wpAny_passesOwn hE h₁)⟩
  | some v =>
    refine wpAny_bind (wpAny_mono h₁ (fun _ s₂ h₂ => ?_) hE)
    refine wpAny_bind (wpAny_mono h₂ (fun _ s₃ h₃ => ?_) hE)
    refine wpAny_bind (wpAny_mono h₃ (fun f s₄ h₄ => ?_) hE)
    cases f with
    | next => exact wpAny_pure ⟨rfl, h₄⟩
    | cont => exact wpAny_pure ⟨rfl, h₄⟩
    | brk => exact wpAny_pure h₄
    | ret v => exact wpAny_pure h₄
end
end
section
/-! a for over a written tuple of the top's, its iterator in the ledger -/
section
variable {prog : Program} {w : World} {A : Around} {E : Value → Shared → Prop} {s : Shared} {env : Env} {h₀ : Heap} {target : Expr} {body orelse : List Stmt} {Q : Flow → Shared → Prop} {K : Frag} {m : Str → Option Value} {news : List (Addr × Obj)}
  {ax I : Addr} {lo o : Obj} {vs : List Value} {n i : Nat} {v : Value}
theorem tupFor_start (F : Fr h₀ env.locals s.heap m) (N : News h₀ env.locals s.heap news) (X : K.In h₀) (hk : K.lookup ax = some lo) (hc : lo.cls = .type "tuple") (hd : lo.data = .seq vs.toArray n)
    (h : ∀ I h' o, (∀ p ∈ news, p.1 < I) → o.cls = .type "tuple_iterator" → o.data = .fields #[.ref ax, .int (0 : Nat) 0] → Fr h₀ env.locals h' m → News h₀ env.locals h' ((I, o) :: news) → ForRest prog w A E env target I body orelse Q { s with heap := h' }) :
    wpAny (model prog w) A (pyIter (.ref ax)) (fun it s₂ => ForAt prog w A E env target body orelse Q it s₂) E s := by
  have hl : s.heap.IsTuple ax vs.toArray := ⟨lo, F.keep _ _ (X _ _ hk), hc, n, hd⟩
  exact wpAny_pyIter_tuple hl ⟨_, rfl, h _ _ (tupIt ax) (fun p hp => Heap.lt_size (N p hp).1) rfl rfl (F.push _) (N.push F _)⟩
theorem news_head {L : Addr} {h h' : Heap} (N : News h₀ L h ((I, o) :: news)) (hs : Heap.SameBut I h h') (hlt : ∀ p ∈ news, p.1 < I) {o' : Obj} (ho : h'.get? I = some o') : News h₀ L h' ((I, o') :: news) := by
  intro p hp
  rcases List.mem_cons.mp hp with rfl | hp
  · exact ⟨ho, (N _ (.head _)).2⟩
  · have := N p (.tail _ hp)
    exact ⟨(hs.2 p.1 (Nat.ne_of_lt (hlt p hp))).trans this.1, this.2⟩
theorem fr_head {L : Addr} {h h' : Heap} (F : Fr h₀ L h m) (N : News h₀ L h ((I, o) :: news)) (hs : Heap.SameBut I h h') : Fr h₀ L h' m := by
  have hI := N _ (.head _)
  refine ⟨F.ns.sameBut hs (Ne.symm hI.2.1), fun b ob e => (hs.2 b fun q => ?_).trans (F.keep b ob e), F.above⟩
  subst q
  rw [hI.2.2] at e; cases e
theorem tupFor_item (hE : PassesOwn (model prog w) A env E) (F : Fr h₀ env.locals s.heap m) (N : News h₀ env.locals s.heap ((I, o) :: news)) (X : K.In h₀) (hk : K.lookup ax = some lo) (hc : lo.cls = .type "tuple") (hd : lo.data = .seq vs.toArray n)
    (hlt : ∀ p ∈ news, p.1 < I) (hoc : o.cls = .type "tuple_iterator") (hod : o.data = .fields #[.ref ax, .int i 0]) (hv : vs[i]? = some v)
    (h : ∀ h' o', o'.cls = .type "tuple_iterator" → o'.data = .fields #[.ref ax, .int ((i + 1 : Nat) : Int) 0] → Fr h₀ env.locals h' m → News h₀ env.locals h' ((I, o') :: news) →
      wpAny (model prog w) A (assign target env v) (fun _ s₃ => wpAny (model prog w) A (execs body env) (ForPost prog w A E env target I body orelse Q) E s₃) E { s with heap := h' }) :
    ForRest prog w A E env target I body orelse Q s := by
  have hl : s.heap.IsTuple ax vs.toArray := ⟨lo, F.keep _ _ (X _ _ hk), hc, n, hd⟩
  have hI := N _ (.head _)
  refine for_turn hE (wpAny_pyNext_tuple_item (i := i) ⟨o, hI.1, hoc, hod⟩ hl (x := v) (by simpa using hv) fun h' hit hs => ?_)
  obtain ⟨o', ho', hc', hd'⟩ := id hit
  exact letGo_tupleiter hit (h h' o' hc' hd' (fr_head F N hs) (news_head N hs hlt ho'))
theorem tupFor_end (hE : PassesOwn (model prog w) A env E) (hh : A.handled = none) (F : Fr h₀ env.locals s.heap m) (N : News h₀ env.locals s.heap ((I, o) :: news)) (X : K.In h₀) (hk : K.lookup ax = some lo) (hc : lo.cls = .type "tuple") (hd : lo.data = .seq vs.toArray n)
    (hlt : ∀ p ∈ news, p.1 < I) (hoc : o.cls = .type "tuple_iterator") (hod : o.data = .fields #[.ref ax, .int i 0]) (hv : vs[i]? = none)
    (h : ∀ h', Fr h₀ env.locals h' m → News h₀ env.locals h' news → wpAny (model prog w) A (execs orelse env) Q E { s with heap := h' }) :
    ForRest prog w A E env target I body orelse Q s := by
  have hl : s.heap.IsTuple ax vs.toArray := ⟨lo, F.keep _ _ (X _ _ hk), hc, n, hd⟩
  have hI := N _ (.head _)
  refine for_turn hE (wpAny_pyNext_tuple_end (i := i) hh ⟨o, hI.1, hoc, hod⟩ hl (by simpa using hv) fun h' hs => h h' ?_ ?_)
  · obtain ⟨oL, e1, e2, hL, e3⟩ := F.ns
    refine ⟨⟨oL, e1, e2, hs _ _ (Ne.symm hI.2.1) hL, e3⟩, fun b ob e => hs b ob (fun q => ?_) (F.keep b ob e), F.above⟩
    subst q
    rw [hI.2.2] at e; cases e
  · intro p hp
    have := N p (.tail _ hp)
    exact ⟨hs _ _ (Nat.ne_of_lt (hlt p hp)) this.1, this.2⟩

theorem items_join {ws : List (Addr × String)} {keep : List (Addr × Obj)} {xs : List Itm} (Inv : Nat → (Str → Option Value) → List (Addr × Obj) → Prop) (h0 : Inv 0 m news)
    (step : ∀ i a, xs[i]? = some a → ∀ m n, Inv i m n → (∀ m' n', Inv (i + 1) m' n' → ItemsRest prog w A E h₀ env target body Q s ws keep (xs.drop (i + 1)) m' n') → ItemsRest prog w A E h₀ env target body Q s ws keep (a :: xs.drop (i + 1)) m n)
    (done : ∀ m n, Inv xs.length m n → ItemsRest prog w A E h₀ env target body Q s ws keep [] m n) : ItemsRest prog w A E h₀ env target body Q s ws keep xs m news := by
  have key : ∀ k i, i + k = xs.length → ∀ m n, Inv i m n → ItemsRest prog w A E h₀ env target body Q s ws keep (xs.drop i) m n := by
    intro k
    induction k with
    | zero =>
      intro i hi m n hI
      rw [List.drop_eq_nil_of_le (by omega)]
      have e : i = xs.length := by omega
      subst e
      exact done m n hI
    | succ k ih =>
      intro i hi m n hI
      have hlt : i < xs.length := by omega
      rw [List.drop_eq_getElem_cons hlt]
      exact step i xs[i] (by simp [hlt]) m n hI fun m' n' hI' => ih (i + 1) (by omega) m' n' hI'
  exact key xs.length 0 (by omega) m news h0

theorem allObj_mono : ∀ {ws : List (Addr × String)} {k k' : List (Addr × Obj) → Prop}, (∀ its, k its → k' its) → AllObj ws k → AllObj ws k'
  | [], _, _, h, x => h _ x
  | _ :: _, _, _, h, x => fun o ho => allObj_mono (fun its y => h _ y) (x o ho)
theorem items_weaken {ws : List (Addr × String)} {keep : List (Addr × Obj)} {xs : List Itm} {news' : List (Addr × Obj)} (sub : ∀ p ∈ news', p ∈ news)
    (h : ItemsRest prog w A E h₀ env target body Q s ws keep xs m news') : ItemsRest prog w A E h₀ env target body Q s ws keep xs m news := by
  cases xs with
  | nil => exact fun h' tk F N => h h' tk F fun p hp => N p (sub p hp)
  | cons a r =>
    refine fun v h' tk ha F => allObj_mono (fun its x N => x fun p hp => ?_) (h v h' tk ha F)
    rcases List.mem_append.mp hp with q | q
    · exact N p (List.mem_append_left _ q)
    · exact N p (List.mem_append_right _ (sub p q))
theorem sub_self {α : Type} {x : α} : ∀ p ∈ [x], p ∈ [x] := fun _ hp => hp
theorem sub_tail1 {α : Type} {x y : α} : ∀ p ∈ [x], p ∈ [y, x] := fun _ hp => .tail _ hp

theorem enum_tupK {elts : List Expr} {k : Nat} {pos : Pos} {xs : List Itm} (hh : A.handled = none) (F : Fr h₀ env.locals s.heap m) (N : News h₀ env.locals s.heap news) (X : K.In h₀) (hk : K.lookup ax = some lo) (hc : lo.cls = .type "tuple") (hd : lo.data = .seq vs.toArray n) (hx : enumItems 0 vs = xs)
    (rest₀ : ∀ I : Addr, (∀ p ∈ news, p.1 < I) → ItemsRest prog w A E h₀ env (.Tuple elts k pos) body Q s [(I + 1, "enumerate"), (I, "tuple_iterator")] [] xs m news) :
    wpAny (model prog w) A (call (.type "enumerate") [.ref ax]) (fun xv s₁ => wpAny (model prog w) A (pyIter xv) (fun it s₂ => TurnsAt prog w A h₀ env (.Tuple elts k pos) body Q E it s₂) E s₁) E s := by
  subst hx
  have hg : h₀.get? ax = some lo := X _ _ hk
  have hax := F.keep _ _ hg
  have hl : s.heap.IsTuple ax vs.toArray := ⟨lo, hax, hc, n, hd⟩
  have hlt : ax < s.heap.objs.size := Heap.lt_size hax
  have hLs : env.locals < s.heap.objs.size := F.ns.lt
  have hh1 : A.in1.handled = none := hh
  refine call_enum_tuple hl fun h' hE hI hk' => wpAny_pyIter_enum hE ?_
  refine ktg_core (tk0 := s.toks) (keep := []) (KTurns.ofWalksU (WalksT.enumerateD (draws_tuple hh1 s.heap.objs.size ax (Nat.ne_of_lt hlt) vs.toArray) (s.heap.objs.size + 1) (Nat.succ_ne_self _) ?_ (by simp)).toU) (by simp [enumItems_length]) ?_ ?_ ?_ ?_ ?_ ?_ ?_ ?_ (F.keeps hk') (N.grown hk') trivial (rest₀ _ fun p hp => Heap.lt_size (N p hp).1)
  · intro hm
    rcases List.mem_cons.mp hm with e | hm
    · exact Nat.succ_ne_self _ e
    · exact Nat.ne_of_gt (Nat.lt_succ_of_lt hlt) (List.mem_singleton.mp hm)
  · rintro i v h ⟨T, vals, rfl, ⟨t, x, hx, rfl⟩, hT⟩
    refine ⟨_, enumItems_get vs 0 i (v := x) (by simpa using hx), T, t, rfl, ?_⟩
    show IsTup h T #[.int ((0 + i : Nat) : Int) t, x]
    rw [Nat.zero_add]
    exact hT
  · rintro i h ⟨⟨old, he⟩, ⟨oi, hoi, hic, _⟩, _⟩
    have he' : ∃ oe : Obj, h.get? (s.heap.objs.size + 1) = some oe ∧ oe.cls = .type "enumerate" := ⟨_, he, rfl⟩
    obtain ⟨oe, h1, h2⟩ := he'
    refine ⟨[(s.heap.objs.size + 1, oe), (s.heap.objs.size, oi)], ⟨⟨rfl, h2⟩, ⟨rfl, hic⟩, trivial⟩, fun p hp => ?_⟩
    rcases List.mem_cons.mp hp with rfl | hp
    · exact h1
    · rw [List.mem_singleton.mp hp]; exact hoi
  · intro b hb
    simp only [List.map_cons, List.map_nil, List.mem_cons, List.not_mem_nil, or_false] at hb
    rcases hb with rfl | rfl
    · exact ⟨by simp, ktu_new F (by omega)⟩
    · exact ⟨by simp, ktu_new F (by omega)⟩
  · intro b hb; simpa using hb
  · intro b hb
    simp only [List.mem_cons, List.not_mem_nil, or_false] at hb
    rcases hb with rfl | rfl | rfl
    · exact .inl (by simp)
    · exact .inl (by simp)
    · exact .inr (.inr ⟨lo, hg⟩)
  · intro hm
    rcases List.mem_cons.mp hm with e | hm
    · exact Nat.ne_of_lt (Nat.lt_succ_of_lt hLs) e
    · rcases List.mem_cons.mp hm with e | hm
      · exact Nat.ne_of_lt hLs e
      · exact absurd (Heap.lt_size hg) (Nat.not_lt.mpr ((List.mem_singleton.mp hm : env.locals = ax) ▸ F.above))
  · intro p hp hm
    have hp1 : p.1 < s.heap.objs.size := Heap.lt_size (N p hp).1
    rcases List.mem_cons.mp hm with e | hm
    · exact Nat.ne_of_lt (Nat.lt_succ_of_lt hp1) e
    · exact Nat.ne_of_lt hp1 (List.mem_singleton.mp hm)
  · exact ⟨⟨_, hE⟩, hI, hl.at fun o e => hk' _ _ e⟩
end
end
section
theorem signs_weight (c : Int) : (((figsM c).map sgnS).map (·.length)).sum + ((figsM c).map sgnS).length ≤ 1048576 := by
  simp [figsM, sgnS, Str.length]
def modeS (c : Int) : Str := Txt.join (Str.ofString "") ((figsM c).map sgnS)
def FmInv (D : Addr) (c : Int) (t : Tok) (i : Nat) (m : Str → Option Value) (news : List (Addr × Obj)) : Prop :=
  Binds m [(Str.ofString "perm", .ref D), (Str.ofString "mode", .int c t)] ∧ ∃ vs n, news = [(D, W.listOf vs.toArray n)] ∧ StrsAre vs (((figsM c).take i).map sgnS)
/-- the first sign whose bits stand -/
def pickF (k : Int) (c : Int) : List (Int × Str) → Str
  | [] => if k = 0 then Str.ofString "?" else Str.ofString "-"
  | (b, x) :: r => if k = 0 then (if Builtin.bitAnd c 61440 = b then x else pickF k c r) else if Builtin.bitAnd c b = b then x else pickF k c r
/-- a written tuple's pairs -/
def Ents (h : Heap) : List Value → List (Int × Str) → Prop
  | [], [] => True
  | v :: vs, e :: es => (∃ p tb tx, v = .ref p ∧ IsTup h p #[.int e.1 tb, .str e.2 tx]) ∧ Ents h vs es
  | _, _ => False
theorem Ents.cons_inv {h : Heap} {vs : List Value} {e : Int × Str} {es : List (Int × Str)} (x : Ents h vs (e :: es)) : ∃ p tb tx r, vs = .ref p :: r ∧ IsTup h p #[.int e.1 tb, .str e.2 tx] ∧ Ents h r es := by
  cases vs with
  | nil => exact x.elim
  | cons v r => obtain ⟨⟨p, tb, tx, rfl, ht⟩, y⟩ := x; exact ⟨p, tb, tx, r, rfl, ht, y⟩
theorem Ents.nil_inv {h : Heap} {vs : List Value} (x : Ents h vs []) : vs = [] := by
  cases vs with
  | nil => rfl
  | cons v r => exact x.elim
theorem drop_cons_inv {α : Type} {l r : List α} {x : α} {j : Nat} (h : l.drop j = x :: r) : l[j]? = some x ∧ l.drop (j + 1) = r := by
  have e : (l.drop j)[0]? = some x := by rw [h]; rfl
  rw [List.getElem?_drop] at e
  refine ⟨e, ?_⟩
  rw [← List.drop_drop, h]; rfl
theorem drop_nil_inv {α : Type} {l : List α} {j : Nat} (h : l.drop j = []) : l[j]? = none := List.getElem?_eq_none (List.drop_eq_nil_iff.mp h)
theorem tup_keeps {h h' : Heap} {p : Addr} {xs : Array Value} (k : Keeps h h') (x : IsTup h p xs) : IsTup h' p xs := let ⟨o, ho, r⟩ := x; ⟨o, k _ _ ho, r⟩
section
variable {w : World} {loose : List Str} {mean : ExcName → Option Value} {mg mb : Str → Option Value} {base : Heap} {outer : List Env} {gd : Option (List Code)} {h₀ : Heap} {E : Value → Shared → Prop} {L : Addr}
  {name qual : Str} {params : Arguments} {body : List Stmt} {scope : Scope} {dV kV doc pm cdv ct oc : Value} {an od : Option Addr} {osl : Array (Option Value)}
  {b0 : Stmt} {t1 i1 tg it : Expr} {bd oe rest : List Stmt} {p0 p1 : Pos} {D I ax a1 a2 : Addr} {o1 o2 : Obj} {c k : Int} {t ti : Tok} {vs tvs : List Value} {n nn : Nat} {lo : Obj}
theorem fm_rows {s : Shared} {Q : Flow → Shared → Prop}
    (ho : (hd.heap_1 w.params).lookup 68 = some ⟨oc, od, .func (fnOf name qual params body scope dV kV doc pm an cdv ct), osl⟩) (hbd : body = b0 :: Stmt.For t1 i1 [Stmt.For tg it bd oe p1] [] p0 :: rest)
    (B : Below (Aat 890 8900 outer gd) base outer h₀) (X : (hd.heap_1 w.params).In h₀) (T : Top topProg loose mean mg mb h₀)
    (hk : (hd.heap_1 w.params).lookup ax = some lo) (hlc : lo.cls = .type "tuple") (hld : lo.data = .seq tvs.toArray nn) (hDI : @LT.lt Nat instLTNat D I ∧ @LT.lt Nat instLTNat a2 I ∧ @LT.lt Nat instLTNat a1 I) (hD1 : @LT.lt Nat instLTNat D a1) (hD2 : @LT.lt Nat instLTNat D a2) (hvl : vs.length ≤ 10)
    (hE : PassesOwn (model Challenge.rw_qh0096_01.row.prog w) ((Aat 890 8900 outer gd).deeper (envOf qual scope L 68 cdv)) (envOf qual scope L 68 cdv) E) :
    ∀ (es : List (Int × Str)) (j : Nat) (h : Heap) (tk : Nat) (m : Str → Option Value) (o : Obj),
      Hid (∀ h' tk' m' t' n', Binds m' [(Str.ofString "perm", .ref D), (Str.ofString "mode", .int c t)] → Fr h₀ L h' m' → News h₀ L h' [(a1, o1), (a2, o2), (D, W.listOf (vs ++ [Value.str (pickF k c es) t']).toArray n')] → Q .next { s with heap := h', toks := tk' }) →
      Hid (Ents h₀ (tvs.drop j) es) → Binds m [(Str.ofString "index", .int k ti), (Str.ofString "perm", .ref D), (Str.ofString "mode", .int c t)] → o.cls = .type "tuple_iterator" → o.data = .fields #[.ref ax, .int (j : Nat) 0] →
      Fr h₀ L h m → News h₀ L h [(I, o), (a1, o1), (a2, o2), (D, W.listOf vs.toArray n)] → ForRest Challenge.rw_qh0096_01.row.prog w ((Aat 890 8900 outer gd).deeper (envOf qual scope L 68 cdv)) E (envOf qual scope L 68 cdv) tg I bd oe Q { s with heap := h, toks := tk } := by
  revert X; k_fill; intro X
  have hc := Option.some.inj (ho.symm.trans (show _ = some _ from by k_is))
  dsimp only [fnOf] at hc
  cases hc
  cases hbd

  have hlt : ∀ p ∈ [(a1, o1), (a2, o2), (D, W.listOf vs.toArray n)], @LT.lt Nat instLTNat p.1 I := by
    intro p hp
    simp only [List.mem_cons, List.not_mem_nil, or_false] at hp
    rcases hp with rfl | rfl | rfl
    · exact hDI.2.2
    · exact hDI.2.1
    · exact hDI.1
  obtain ⟨hI1, hI2, hI3⟩ := hDI
  intro es
  induction es with
  | nil =>
    intro j h tk m o hQ hes hb hoc hod F N
    have hv := drop_nil_inv (Ents.nil_inv hes.out)
    refine tupFor_end hE rfl F N X hk hlc hld hlt hoc hod hv ?_
    clear F N hv hod hoc hes hlt
    intro h9 F9 N9
    rw [← kstB_self hb.all] at F9
    dsimp only [kstB] at F9
    by_cases hk0 : k = 0
    · (repeat' (first | (k_unfold; (try dsimp only)) | (first | with_reducible (k_here; (with_reducible show wpAny _ _ (call (Value.builtin _) [Value.str _ _, Value.ref _]) _ _ _); k_dflt (refine join_listW (by is_list) (by assumption) (by decide +kernel) (signs_weight _) ?_); intro t9 k9) | with_reducible ((with_reducible show ForRest _ _ _ _ _ _ _ _ _ _ _); refine stop_here ?_) | with_reducible ((with_reducible show ForPost _ _ _ _ _ _ _ _ _ _ _ _); dsimp only [ForPost]) | with_reducible (k_here; (with_reducible show wpAny _ _ (pyIter (Value.ref _)) (fun it s₂ => ForAt _ _ _ _ _ _ _ _ _ it s₂) _ _); (with_unfolding_all refine' tupFor_start (by k_asm) (by k_asm) (by k_asm) (by first | assumption | k_is) (by first | assumption | exact rfl) (by first | assumption | exact rfl) ?_; k_whole); intro i9 h9 o9 hlt9 hoc9 hod9 F9 N9; (have l9 := hlt9); (try k_lt l9); (try dsimp only)) | with_reducible (k_here; (with_reducible show wpAny _ _ (exec (Stmt.For _ _ _ (List.cons _ _) _) _) _ _ _); (refine for_start ?_ (by intro _; with_unfolding_all rfl)); k_whole) | with_reducible ((with_reducible show ItemsRest _ _ _ _ _ _ _ _ _ _ _ _ _ _ _); refine stop_here ?_) | with_reducible ((with_reducible show wpAny _ _ (call (Value.type "enumerate") _ _) _ _ _); (k_here; (with_unfolding_all refine' enum_tupK (by with_unfolding_all rfl) (by k_asm) (by k_asm) (by k_asm) (by k_is) (by exact rfl) (by exact rfl) (by exact rfl) ?_; k_whole); intro i' l1; (try k_lt l1))) | with_reducible ((with_reducible show wpAny _ _ (exec (Stmt.For (Expr.Tuple _ _ _) (Expr.Call _ _ _ _) _ _ _) _) _ _ _); (k_here; (rename Fr _ _ _ _ => lF'); (with_unfolding_all refine' For_turns lF' ?_; k_whole))) | with_reducible ((with_reducible show wpAny _ _ (exec (Stmt.For (Expr.Tuple _ _ _) (Expr.Call _ _ _ _) (List.cons _ _) [] _) _) _ _ _); (k_here; (rename Fr _ _ _ _ => lF'); (with_unfolding_all refine' For_turns lF' ?_; k_whole))) | with_reducible ((with_reducible show ite _ _ _); first | (refine ite_pos (by ((try simp only [decide_eq_true_eq, beq_iff_eq, bne_iff_ne, ne_eq, Bool.not_eq_true']); omega)) ?_; walk_say "m ite +") | (refine ite_neg (by ((try simp only [decide_eq_true_eq, beq_iff_eq, bne_iff_ne, ne_eq, Bool.not_eq_true']); omega)) ?_; walk_say "m ite -")) | with_reducible ((with_reducible show InvEndN _ _ _ _ _ _ _); refine stop_here ?_)) | walk1 | (dsimp only; walk1) | (leave1; walk_say "STEP leave1"; try dsimp only) | fail "no step"))
      rename News _ _ _ _ => nN
      rename Fr _ _ _ _ => nF
      simp only [List.push_toArray] at nN
      refine hQ.out _ _ _ _ _ ⟨rfl, rfl, trivial⟩ nF (by rw [pickF, if_pos hk0]; exact nN)
    · (repeat' (first | (k_unfold; (try dsimp only)) | (first | with_reducible (k_here; (with_reducible show wpAny _ _ (call (Value.builtin _) [Value.str _ _, Value.ref _]) _ _ _); k_dflt (refine join_listW (by is_list) (by assumption) (by decide +kernel) (signs_weight _) ?_); intro t9 k9) | with_reducible ((with_reducible show ForRest _ _ _ _ _ _ _ _ _ _ _); refine stop_here ?_) | with_reducible ((with_reducible show ForPost _ _ _ _ _ _ _ _ _ _ _ _); dsimp only [ForPost]) | with_reducible (k_here; (with_reducible show wpAny _ _ (pyIter (Value.ref _)) (fun it s₂ => ForAt _ _ _ _ _ _ _ _ _ it s₂) _ _); (with_unfolding_all refine' tupFor_start (by k_asm) (by k_asm) (by k_asm) (by first | assumption | k_is) (by first | assumption | exact rfl) (by first | assumption | exact rfl) ?_; k_whole); intro i9 h9 o9 hlt9 hoc9 hod9 F9 N9; (have l9 := hlt9); (try k_lt l9); (try dsimp only)) | with_reducible (k_here; (with_reducible show wpAny _ _ (exec (Stmt.For _ _ _ (List.cons _ _) _) _) _ _ _); (refine for_start ?_ (by intro _; with_unfolding_all rfl)); k_whole) | with_reducible ((with_reducible show ItemsRest _ _ _ _ _ _ _ _ _ _ _ _ _ _ _); refine stop_here ?_) | with_reducible ((with_reducible show wpAny _ _ (call (Value.type "enumerate") _ _) _ _ _); (k_here; (with_unfolding_all refine' enum_tupK (by with_unfolding_all rfl) (by k_asm) (by k_asm) (by k_asm) (by k_is) (by exact rfl) (by exact rfl) (by exact rfl) ?_; k_whole); intro i' l1; (try k_lt l1))) | with_reducible ((with_reducible show wpAny _ _ (exec (Stmt.For (Expr.Tuple _ _ _) (Expr.Call _ _ _ _) _ _ _) _) _ _ _); (k_here; (rename Fr _ _ _ _ => lF'); (with_unfolding_all refine' For_turns lF' ?_; k_whole))) | with_reducible ((with_reducible show wpAny _ _ (exec (Stmt.For (Expr.Tuple _ _ _) (Expr.Call _ _ _ _) (List.cons _ _) [] _) _) _ _ _); (k_here; (rename Fr _ _ _ _ => lF'); (with_unfolding_all refine' For_turns lF' ?_; k_whole))) | with_reducible ((with_reducible show ite _ _ _); first | (refine ite_pos (by ((try simp only [decide_eq_true_eq, beq_iff_eq, bne_iff_ne, ne_eq, Bool.not_eq_true']); omega)) ?_; walk_say "m ite +") | (refine ite_neg (by ((try simp only [decide_eq_true_eq, beq_iff_eq, bne_iff_ne, ne_eq, Bool.not_eq_true']); omega)) ?_; walk_say "m ite -")) | with_reducible ((with_reducible show InvEndN _ _ _ _ _ _ _); refine stop_here ?_)) | walk1 | (dsimp only; walk1) | (leave1; walk_say "STEP leave1"; try dsimp only) | fail "no step"))
      rename News _ _ _ _ => nN
      rename Fr _ _ _ _ => nF
      simp only [List.push_toArray] at nN
      refine hQ.out _ _ _ _ _ ⟨rfl, rfl, trivial⟩ nF (by rw [pickF, if_neg hk0]; exact nN)
  | cons e es ih =>
    intro j h tk m o hQ hes hb hoc hod F N
    obtain ⟨p, tb, tx, r, hdr, ht, hes'⟩ := Ents.cons_inv hes.out
    obtain ⟨hv, hdr'⟩ := drop_cons_inv hdr
    rw [← hdr'] at hes'
    replace hes' := Hid.mk hes'
    replace ih := Hid.mk ih
    refine tupFor_item hE F N X hk hlc hld hlt hoc hod hv ?_
    clear hv hdr hdr' hes hod hoc
    intro h9 o9 hoc9 hod9 F9 N9
    have ht9 := tup_keeps F9.keep ht
    clear F N ht
    rw [← kstB_self hb.all] at F9
    dsimp only [kstB] at F9
    by_cases hk0 : k = 0
    · (repeat' (first | (k_unfold; (try dsimp only)) | (first | with_reducible (k_here; (with_reducible show wpAny _ _ (call (Value.builtin _) [Value.str _ _, Value.ref _]) _ _ _); k_dflt (refine join_listW (by is_list) (by assumption) (by decide +kernel) (signs_weight _) ?_); intro t9 k9) | with_reducible ((with_reducible show ForRest _ _ _ _ _ _ _ _ _ _ _); refine stop_here ?_) | with_reducible ((with_reducible show ForPost _ _ _ _ _ _ _ _ _ _ _ _); dsimp only [ForPost]) | with_reducible (k_here; (with_reducible show wpAny _ _ (pyIter (Value.ref _)) (fun it s₂ => ForAt _ _ _ _ _ _ _ _ _ it s₂) _ _); (with_unfolding_all refine' tupFor_start (by k_asm) (by k_asm) (by k_asm) (by first | assumption | k_is) (by first | assumption | exact rfl) (by first | assumption | exact rfl) ?_; k_whole); intro i9 h9 o9 hlt9 hoc9 hod9 F9 N9; (have l9 := hlt9); (try k_lt l9); (try dsimp only)) | with_reducible (k_here; (with_reducible show wpAny _ _ (exec (Stmt.For _ _ _ (List.cons _ _) _) _) _ _ _); (refine for_start ?_ (by intro _; with_unfolding_all rfl)); k_whole) | with_reducible ((with_reducible show ItemsRest _ _ _ _ _ _ _ _ _ _ _ _ _ _ _); refine stop_here ?_) | with_reducible ((with_reducible show wpAny _ _ (call (Value.type "enumerate") _ _) _ _ _); (k_here; (with_unfolding_all refine' enum_tupK (by with_unfolding_all rfl) (by k_asm) (by k_asm) (by k_asm) (by k_is) (by exact rfl) (by exact rfl) (by exact rfl) ?_; k_whole); intro i' l1; (try k_lt l1))) | with_reducible ((with_reducible show wpAny _ _ (exec (Stmt.For (Expr.Tuple _ _ _) (Expr.Call _ _ _ _) _ _ _) _) _ _ _); (k_here; (rename Fr _ _ _ _ => lF'); (with_unfolding_all refine' For_turns lF' ?_; k_whole))) | with_reducible ((with_reducible show wpAny _ _ (exec (Stmt.For (Expr.Tuple _ _ _) (Expr.Call _ _ _ _) (List.cons _ _) [] _) _) _ _ _); (k_here; (rename Fr _ _ _ _ => lF'); (with_unfolding_all refine' For_turns lF' ?_; k_whole))) | with_reducible ((with_reducible show ite _ _ _); first | (refine ite_pos (by ((try simp only [decide_eq_true_eq, beq_iff_eq, bne_iff_ne, ne_eq, Bool.not_eq_true']); omega)) ?_; walk_say "m ite +") | (refine ite_neg (by ((try simp only [decide_eq_true_eq, beq_iff_eq, bne_iff_ne, ne_eq, Bool.not_eq_true']); omega)) ?_; walk_say "m ite -")) | with_reducible ((with_reducible show InvEndN _ _ _ _ _ _ _); refine stop_here ?_)) | walk1 | (dsimp only; walk1) | (leave1; walk_say "STEP leave1"; try dsimp only) | fail "no step"))
      all_goals (rename News _ _ _ _ => nN; rename Fr _ _ _ _ => nF; (try simp only [List.push_toArray] at nN))
      · rename Builtin.bitAnd _ _ = _ => hy
        have e1 : pickF k c (e :: es) = e.2 := by rw [pickF, if_pos hk0, if_pos hy]
        exact hQ.out _ _ _ _ _ ⟨rfl, rfl, trivial⟩ nF (by rw [e1]; exact fun p hp => nN p (.tail _ hp))
      · rename Builtin.bitAnd _ _ ≠ _ => hy
        have e1 : pickF k c (e :: es) = pickF k c es := by rw [pickF, if_pos hk0, if_neg hy]
        exact Stop.of (ih.out _ _ _ _ _ (e1 ▸ hQ) hes' ⟨rfl, rfl, rfl, trivial⟩ hoc9 hod9 nF nN)
    · (repeat' (first | (k_unfold; (try dsimp only)) | (first | with_reducible (k_here; (with_reducible show wpAny _ _ (call (Value.builtin _) [Value.str _ _, Value.ref _]) _ _ _); k_dflt (refine join_listW (by is_list) (by assumption) (by decide +kernel) (signs_weight _) ?_); intro t9 k9) | with_reducible ((with_reducible show ForRest _ _ _ _ _ _ _ _ _ _ _); refine stop_here ?_) | with_reducible ((with_reducible show ForPost _ _ _ _ _ _ _ _ _ _ _ _); dsimp only [ForPost]) | with_reducible (k_here; (with_reducible show wpAny _ _ (pyIter (Value.ref _)) (fun it s₂ => ForAt _ _ _ _ _ _ _ _ _ it s₂) _ _); (with_unfolding_all refine' tupFor_start (by k_asm) (by k_asm) (by k_asm) (by first | assumption | k_is) (by first | assumption | exact rfl) (by first | assumption | exact rfl) ?_; k_whole); intro i9 h9 o9 hlt9 hoc9 hod9 F9 N9; (have l9 := hlt9); (try k_lt l9); (try dsimp only)) | with_reducible (k_here; (with_reducible show wpAny _ _ (exec (Stmt.For _ _ _ (List.cons _ _) _) _) _ _ _); (refine for_start ?_ (by intro _; with_unfolding_all rfl)); k_whole) | with_reducible ((with_reducible show ItemsRest _ _ _ _ _ _ _ _ _ _ _ _ _ _ _); refine stop_here ?_) | with_reducible ((with_reducible show wpAny _ _ (call (Value.type "enumerate") _ _) _ _ _); (k_here; (with_unfolding_all refine' enum_tupK (by with_unfolding_all rfl) (by k_asm) (by k_asm) (by k_asm) (by k_is) (by exact rfl) (by exact rfl) (by exact rfl) ?_; k_whole); intro i' l1; (try k_lt l1))) | with_reducible ((with_reducible show wpAny _ _ (exec (Stmt.For (Expr.Tuple _ _ _) (Expr.Call _ _ _ _) _ _ _) _) _ _ _); (k_here; (rename Fr _ _ _ _ => lF'); (with_unfolding_all refine' For_turns lF' ?_; k_whole))) | with_reducible ((with_reducible show wpAny _ _ (exec (Stmt.For (Expr.Tuple _ _ _) (Expr.Call _ _ _ _) (List.cons _ _) [] _) _) _ _ _); (k_here; (rename Fr _ _ _ _ => lF'); (with_unfolding_all refine' For_turns lF' ?_; k_whole))) | with_reducible ((with_reducible show ite _ _ _); first | (refine ite_pos (by ((try simp only [decide_eq_true_eq, beq_iff_eq, bne_iff_ne, ne_eq, Bool.not_eq_true']); omega)) ?_; walk_say "m ite +") | (refine ite_neg (by ((try simp only [decide_eq_true_eq, beq_iff_eq, bne_iff_ne, ne_eq, Bool.not_eq_true']); omega)) ?_; walk_say "m ite -")) | with_reducible ((with_reducible show InvEndN _ _ _ _ _ _ _); refine stop_here ?_)) | walk1 | (dsimp only; walk1) | (leave1; walk_say "STEP leave1"; try dsimp only) | fail "no step"))
      all_goals (rename News _ _ _ _ => nN; rename Fr _ _ _ _ => nF; (try simp only [List.push_toArray] at nN))
      · rename Builtin.bitAnd _ _ = _ => hy
        have e1 : pickF k c (e :: es) = e.2 := by rw [pickF, if_neg hk0, if_pos hy]
        exact hQ.out _ _ _ _ _ ⟨rfl, rfl, trivial⟩ nF (by rw [e1]; exact fun p hp => nN p (.tail _ hp))
      · rename Builtin.bitAnd _ _ ≠ _ => hy
        have e1 : pickF k c (e :: es) = pickF k c es := by rw [pickF, if_neg hk0, if_neg hy]
        exact Stop.of (ih.out _ _ _ _ _ (e1 ▸ hQ) hes' ⟨rfl, rfl, rfl, trivial⟩ hoc9 hod9 nF nN)
theorem fm_turn {s : Shared} {Q : Flow → Shared → Prop} {xs : List Itm} {m : Str → Option Value} {i : Nat} {es : List (Int × Str)} {f : Tok → Value}
    (ho : (hd.heap_1 w.params).lookup 68 = some ⟨oc, od, .func (fnOf name qual params body scope dV kV doc pm an cdv ct), osl⟩) (hbd : body = b0 :: Stmt.For t1 i1 [Stmt.For tg it bd oe p1] [] p0 :: rest)
    (B : Below (Aat 890 8900 outer gd) base outer h₀) (X : (hd.heap_1 w.params).In h₀) (T : Top topProg loose mean mg mb h₀)
    (hE : PassesOwn (model Challenge.rw_qh0096_01.row.prog w) ((Aat 890 8900 outer gd).deeper (envOf qual scope L 68 cdv)) (envOf qual scope L 68 cdv) E)
    (hDI : @LT.lt Nat instLTNat D I) (hf : f = fun t => .int (i : Int) t)
    (hk : (hd.heap_1 w.params).lookup ax = some lo) (hlc : lo.cls = .type "tuple") (hld : lo.data = .seq tvs.toArray nn) (hes : Hid (Ents h₀ tvs es)) (hvl : vs.length ≤ 10)
    (hb : Binds m [(Str.ofString "perm", .ref D), (Str.ofString "mode", .int c t)])
    (IH : Hid (∀ m' t' n', Binds m' [(Str.ofString "perm", .ref D), (Str.ofString "mode", .int c t)] →
      ItemsRest Challenge.rw_qh0096_01.row.prog w ((Aat 890 8900 outer gd).deeper (envOf qual scope L 68 cdv)) E h₀ (envOf qual scope L 68 cdv) t1 [Stmt.For tg it bd oe p1] Q s [(I + 1, "enumerate"), (I, "tuple_iterator")] [] xs m' [(D, W.listOf (vs ++ [Value.str (pickF i c es) t']).toArray n')])) :
    ItemsRest Challenge.rw_qh0096_01.row.prog w ((Aat 890 8900 outer gd).deeper (envOf qual scope L 68 cdv)) E h₀ (envOf qual scope L 68 cdv) t1 [Stmt.For tg it bd oe p1] Q s [(I + 1, "enumerate"), (I, "tuple_iterator")] [] (.pair f (.ref ax) :: xs) m [(D, W.listOf vs.toArray n)] := by
  have hrows := Hid.mk (fun (I' : Addr) (o1 o2 : Obj) (ti : Tok) (s : Shared) (Q : Flow → Shared → Prop) l1 l2 l3 => @fm_rows w loose mean mg mb base outer gd h₀ E L name qual params body scope dV kV doc pm cdv ct oc an od osl b0 t1 i1 tg it bd oe rest p0 p1 D I' ax (I + 1) I o1 o2 c i t ti vs tvs n nn lo s Q ho hbd B X T hk hlc hld l1 l2 l3 hvl hE)
  revert X; k_fill; intro X
  have hc := Option.some.inj (ho.symm.trans (show _ = some _ from by k_is))
  dsimp only [fnOf] at hc
  cases hc
  cases hbd
  subst hf
  refine ItemsRest.pair ?_
  intro T tt h tk ht kF
  rw [← kstB_self hb.all] at kF
  dsimp only [kstB] at kF
  refine AllObj.cons fun o1 hc1 => AllObj.cons fun o2 hc2 => AllObj.nil fun kN => ?_
  simp only [List.cons_append, List.nil_append] at kN
  (repeat' (first | (k_unfold; (try dsimp only)) | (first | with_reducible (k_here; (with_reducible show wpAny _ _ (call (Value.builtin _) [Value.str _ _, Value.ref _]) _ _ _); k_dflt (refine join_listW (by is_list) (by assumption) (by decide +kernel) (signs_weight _) ?_); intro t9 k9) | with_reducible ((with_reducible show ForRest _ _ _ _ _ _ _ _ _ _ _); refine stop_here ?_) | with_reducible ((with_reducible show ForPost _ _ _ _ _ _ _ _ _ _ _ _); dsimp only [ForPost]) | with_reducible (k_here; (with_reducible show wpAny _ _ (pyIter (Value.ref _)) (fun it s₂ => ForAt _ _ _ _ _ _ _ _ _ it s₂) _ _); (with_unfolding_all refine' tupFor_start (by k_asm) (by k_asm) (by k_asm) (by first | assumption | k_is) (by first | assumption | exact rfl) (by first | assumption | exact rfl) ?_; k_whole); intro i9 h9 o9 hlt9 hoc9 hod9 F9 N9; (have l9 := hlt9); (try k_lt l9); (try dsimp only)) | with_reducible (k_here; (with_reducible show wpAny _ _ (exec (Stmt.For _ _ _ (List.cons _ _) _) _) _ _ _); (refine for_start ?_ (by intro _; with_unfolding_all rfl)); k_whole) | with_reducible ((with_reducible show ItemsRest _ _ _ _ _ _ _ _ _ _ _ _ _ _ _); refine stop_here ?_) | with_reducible ((with_reducible show wpAny _ _ (call (Value.type "enumerate") _ _) _ _ _); (k_here; (with_unfolding_all refine' enum_tupK (by with_unfolding_all rfl) (by k_asm) (by k_asm) (by k_asm) (by k_is) (by exact rfl) (by exact rfl) (by exact rfl) ?_; k_whole); intro i' l1; (try k_lt l1))) | with_reducible ((with_reducible show wpAny _ _ (exec (Stmt.For (Expr.Tuple _ _ _) (Expr.Call _ _ _ _) _ _ _) _) _ _ _); (k_here; (rename Fr _ _ _ _ => lF'); (with_unfolding_all refine' For_turns lF' ?_; k_whole))) | with_reducible ((with_reducible show wpAny _ _ (exec (Stmt.For (Expr.Tuple _ _ _) (Expr.Call _ _ _ _) (List.cons _ _) [] _) _) _ _ _); (k_here; (rename Fr _ _ _ _ => lF'); (with_unfolding_all refine' For_turns lF' ?_; k_whole))) | with_reducible ((with_reducible show ite _ _ _); first | (refine ite_pos (by ((try simp only [decide_eq_true_eq, beq_iff_eq, bne_iff_ne, ne_eq, Bool.not_eq_true']); omega)) ?_; walk_say "m ite +") | (refine ite_neg (by ((try simp only [decide_eq_true_eq, beq_iff_eq, bne_iff_ne, ne_eq, Bool.not_eq_true']); omega)) ?_; walk_say "m ite -")) | with_reducible ((with_reducible show InvEndN _ _ _ _ _ _ _); refine stop_here ?_)) | walk1 | (dsimp only; walk1) | (leave1; walk_say "STEP leave1"; try dsimp only) | fail "no step"))
  rename News _ _ _ _ => nN
  rename Fr _ _ _ _ => nF
  rename _ ∧ _ ∧ _ => l9
  rename Obj => o9
  rename o9.cls = _ => hoc9
  rename o9.data = _ => hod9
  refine Stop.of (hrows.out _ _ _ _ _ _ ⟨l9.2.2, l9.2.1, l9.1⟩ (Nat.lt_succ_of_lt hDI) hDI es 0 _ _ _ _ ⟨?_⟩ hes ⟨rfl, rfl, rfl, trivial⟩ hoc9 hod9 nF nN)
  clear nF nN hoc9 hod9
  intro h8 tk8 m8 t8 n8 hb8 F8 N8
  rw [← kstB_self hb8.all] at F8
  dsimp only [kstB] at F8
  dsimp only
  (repeat' (first | (k_unfold; (try dsimp only)) | (first | with_reducible (k_here; (with_reducible show wpAny _ _ (call (Value.builtin _) [Value.str _ _, Value.ref _]) _ _ _); k_dflt (refine join_listW (by is_list) (by assumption) (by decide +kernel) (signs_weight _) ?_); intro t9 k9) | with_reducible ((with_reducible show ForRest _ _ _ _ _ _ _ _ _ _ _); refine stop_here ?_) | with_reducible ((with_reducible show ForPost _ _ _ _ _ _ _ _ _ _ _ _); dsimp only [ForPost]) | with_reducible (k_here; (with_reducible show wpAny _ _ (pyIter (Value.ref _)) (fun it s₂ => ForAt _ _ _ _ _ _ _ _ _ it s₂) _ _); (with_unfolding_all refine' tupFor_start (by k_asm) (by k_asm) (by k_asm) (by first | assumption | k_is) (by first | assumption | exact rfl) (by first | assumption | exact rfl) ?_; k_whole); intro i9 h9 o9 hlt9 hoc9 hod9 F9 N9; (have l9 := hlt9); (try k_lt l9); (try dsimp only)) | with_reducible (k_here; (with_reducible show wpAny _ _ (exec (Stmt.For _ _ _ (List.cons _ _) _) _) _ _ _); (refine for_start ?_ (by intro _; with_unfolding_all rfl)); k_whole) | with_reducible ((with_reducible show ItemsRest _ _ _ _ _ _ _ _ _ _ _ _ _ _ _); refine stop_here ?_) | with_reducible ((with_reducible show wpAny _ _ (call (Value.type "enumerate") _ _) _ _ _); (k_here; (with_unfolding_all refine' enum_tupK (by with_unfolding_all rfl) (by k_asm) (by k_asm) (by k_asm) (by k_is) (by exact rfl) (by exact rfl) (by exact rfl) ?_; k_whole); intro i' l1; (try k_lt l1))) | with_reducible ((with_reducible show wpAny _ _ (exec (Stmt.For (Expr.Tuple _ _ _) (Expr.Call _ _ _ _) _ _ _) _) _ _ _); (k_here; (rename Fr _ _ _ _ => lF'); (with_unfolding_all refine' For_turns lF' ?_; k_whole))) | with_reducible ((with_reducible show wpAny _ _ (exec (Stmt.For (Expr.Tuple _ _ _) (Expr.Call _ _ _ _) (List.cons _ _) [] _) _) _ _ _); (k_here; (rename Fr _ _ _ _ => lF'); (with_unfolding_all refine' For_turns lF' ?_; k_whole))) | with_reducible ((with_reducible show ite _ _ _); first | (refine ite_pos (by ((try simp only [decide_eq_true_eq, beq_iff_eq, bne_iff_ne, ne_eq, Bool.not_eq_true']); omega)) ?_; walk_say "m ite +") | (refine ite_neg (by ((try simp only [decide_eq_true_eq, beq_iff_eq, bne_iff_ne, ne_eq, Bool.not_eq_true']); omega)) ?_; walk_say "m ite -")) | with_reducible ((with_reducible show InvEndN _ _ _ _ _ _ _); refine stop_here ?_)) | walk1 | (dsimp only; walk1) | (leave1; walk_say "STEP leave1"; try dsimp only) | fail "no step"))
  all_goals exact Stop.of (IH.out _ _ _ ⟨rfl, rfl, trivial⟩)
end
theorem pick_0 {c : Int} (h0 : 0 ≤ c) : pickF ((0 : Nat) : Int) c [(40960, Str.ofString "l"), (49152, Str.ofString "s"), (32768, Str.ofString "-"), (24576, Str.ofString "b"), (16384, Str.ofString "d"), (8192, Str.ofString "c"), (4096, Str.ofString "p")] = sgnS (kindF c) := by
  have eb := and_kind h0
  simp only [pickF, show ((0 : Nat) : Int) = 0 from rfl, if_true]
  split
  · exact kind_s (k := 10) (by omega) (by decide) (by decide +kernel)
  split
  · exact kind_s (k := 12) (by omega) (by decide) (by decide +kernel)
  split
  · exact kind_s (k := 8) (by omega) (by decide) (by decide +kernel)
  split
  · exact kind_s (k := 6) (by omega) (by decide) (by decide +kernel)
  split
  · exact kind_s (k := 4) (by omega) (by decide) (by decide +kernel)
  split
  · exact kind_s (k := 2) (by omega) (by decide) (by decide +kernel)
  split
  · exact kind_s (k := 1) (by omega) (by decide) (by decide +kernel)
  refine kind_q ?_
  simp only [List.forall_mem_cons]
  refine ⟨?_, ?_, ?_, ?_, ?_, ?_, ?_, fun _ h => nomatch h⟩ <;> omega
theorem mod2 (x : Int) : x % 2 = 0 ∨ x % 2 = 1 := by omega
theorem pick_r {c b k q : Int} (hq : q ≠ 0) (h : Builtin.bitAnd c b = c / b % 2 * b) (hb : 0 < b) (e : rightsF c k / 4 = c / b % 2) : pickF q c [(b, Str.ofString "r")] = sgnS (rF c k) := by
  simp only [pickF, if_neg hq]
  rw [h]
  rcases mod2 (c / b) with y | y
  · rw [y, if_neg (by omega)]; exact r_no (e.trans y)
  · rw [y, if_pos (by omega)]; exact r_yes (e.trans y)
theorem pick_w {c b k q : Int} (hq : q ≠ 0) (h : Builtin.bitAnd c b = c / b % 2 * b) (hb : 0 < b) (e : rightsF c k / 2 % 2 = c / b % 2) : pickF q c [(b, Str.ofString "w")] = sgnS (wF c k) := by
  simp only [pickF, if_neg hq]
  rw [h]
  rcases mod2 (c / b) with y | y
  · rw [y, if_neg (by omega)]; exact w_no (e.trans y)
  · rw [y, if_pos (by omega)]; exact w_yes (e.trans y)
theorem pick_x {c a b d k q : Int} {s S : Str} (hq : q ≠ 0) (ha : Builtin.bitAnd c a = c / a % 2 * a) (hb : Builtin.bitAnd c b = c / b % 2 * b) (hd : Builtin.bitAnd c d = c / a % 2 * a + c / b % 2 * b) (hd' : d = a + b) (h1 : 0 < a) (h2 : 0 < b)
    (e1 : rightsF c k % 2 = c / a % 2) (e2 : aboveF c k = c / b % 2) (hk : k = 0 ∨ k = 1 ∨ k = 2)
    (es : rightsF c k % 2 = 1 → aboveF c k = 1 → s = sgnS (xF c k)) (eS : rightsF c k % 2 = 0 → aboveF c k = 1 → S = sgnS (xF c k)) : pickF q c [(d, s), (b, S), (a, Str.ofString "x")] = sgnS (xF c k) := by
  simp only [pickF, if_neg hq]
  rw [ha, hb, hd]
  rcases mod2 (c / a) with y | y <;> rcases mod2 (c / b) with z | z <;> rw [y, z]
  · rw [if_neg (by omega), if_neg (by omega), if_neg (by omega)]; exact x_no (e1.trans y) (e2.trans z) hk
  · rw [if_neg (by omega), if_pos (by omega)]; exact eS (e1.trans y) (e2.trans z)
  · rw [if_neg (by omega), if_neg (by omega), if_pos (by omega)]; exact x_x (e1.trans y) (e2.trans z) hk
  · rw [if_pos (by omega)]; exact es (e1.trans y) (e2.trans z)
theorem fm_inv {D : Addr} {c : Int} {t t' : Tok} {i n' : Nat} {m' : Str → Option Value} {vs : List Value} {x : Str} {y : Int} (hb : Binds m' [(Str.ofString "perm", .ref D), (Str.ofString "mode", .int c t)])
    (hs : StrsAre vs (((figsM c).take i).map sgnS)) (hy : (figsM c).take (i + 1) = (figsM c).take i ++ [y]) (e : x = sgnS y) : FmInv D c t (i + 1) m' [(D, W.listOf (vs ++ [Value.str x t']).toArray n')] := by
  refine ⟨hb, _, _, rfl, ?_⟩
  rw [hy, List.map_append]
  exact strs_snoc hs e
theorem filemode_ok {w : World} {loose : List Str} {mean : ExcName → Option Value} {mg mb : Str → Option Value} {base : Heap} {outer : List Env} {gd : Option (List Code)} {s : Shared} {Q E : Value → Shared → Prop} {c : Int} {t : Tok}
    (H : Here w loose mean mg mb (Aat 890 8900 outer gd) base outer s.heap) (h0 : 0 ≤ c) (h1 : c < 4294967296)
    (hret : Hid (∀ h' tk' t', Keeps s.heap h' → Q (.str (modeS c) t') { s with heap := h', toks := tk' })) :
    wpAny (model Challenge.rw_qh0096_01.row.prog w) (Aat 890 8900 outer gd) (call (.ref 68) [.int c t]) Q E s := by
  have X := H.X
  revert X; k_fill; intro X
  refine' enter [(Str.ofString "mode", .int c t)] H ?k6 ?k7 ?k8 ?k9 ?kB ?_ ?c2 ?c3 ?c4 ?c5
  (k_dflt ((case k6 => k_is); (case k7 => k_is); (case k8 => k_room); (case k9 => first | exact BindsTo.of_eq rfl | exact binds_K (by k_in) rfl (by k_is) rfl rfl rfl); (case c5 => decide); (case kB => exact locs rfl); (case c2 => exact rfl); (case c3 => exact rfl); (case c4 => exact rfl)))
  clear H X
  intro L' h' tk' F' N' B' X' T'
  try dsimp only
  k_fold
  (repeat' (first | (k_unfold; (try dsimp only)) | (first | with_reducible (k_here; (with_reducible show wpAny _ _ (call (Value.builtin _) [Value.str _ _, Value.ref _]) _ _ _); k_dflt (refine join_listW (by is_list) (by assumption) (by decide +kernel) (signs_weight _) ?_); intro t9 k9) | with_reducible ((with_reducible show ForRest _ _ _ _ _ _ _ _ _ _ _); refine stop_here ?_) | with_reducible ((with_reducible show ForPost _ _ _ _ _ _ _ _ _ _ _ _); dsimp only [ForPost]) | with_reducible (k_here; (with_reducible show wpAny _ _ (pyIter (Value.ref _)) (fun it s₂ => ForAt _ _ _ _ _ _ _ _ _ it s₂) _ _); (with_unfolding_all refine' tupFor_start (by k_asm) (by k_asm) (by k_asm) (by first | assumption | k_is) (by first | assumption | exact rfl) (by first | assumption | exact rfl) ?_; k_whole); intro i9 h9 o9 hlt9 hoc9 hod9 F9 N9; (have l9 := hlt9); (try k_lt l9); (try dsimp only)) | with_reducible (k_here; (with_reducible show wpAny _ _ (exec (Stmt.For _ _ _ (List.cons _ _) _) _) _ _ _); (refine for_start ?_ (by intro _; with_unfolding_all rfl)); k_whole) | with_reducible ((with_reducible show ItemsRest _ _ _ _ _ _ _ _ _ _ _ _ _ _ _); refine stop_here ?_) | with_reducible ((with_reducible show wpAny _ _ (call (Value.type "enumerate") _ _) _ _ _); (k_here; (with_unfolding_all refine' enum_tupK (by with_unfolding_all rfl) (by k_asm) (by k_asm) (by k_asm) (by k_is) (by exact rfl) (by exact rfl) (by exact rfl) ?_; k_whole); intro i' l1; (try k_lt l1))) | with_reducible ((with_reducible show wpAny _ _ (exec (Stmt.For (Expr.Tuple _ _ _) (Expr.Call _ _ _ _) _ _ _) _) _ _ _); (k_here; (rename Fr _ _ _ _ => lF'); (with_unfolding_all refine' For_turns lF' ?_; k_whole))) | with_reducible ((with_reducible show wpAny _ _ (exec (Stmt.For (Expr.Tuple _ _ _) (Expr.Call _ _ _ _) (List.cons _ _) [] _) _) _ _ _); (k_here; (rename Fr _ _ _ _ => lF'); (with_unfolding_all refine' For_turns lF' ?_; k_whole))) | with_reducible ((with_reducible show ite _ _ _); first | (refine ite_pos (by ((try simp only [decide_eq_true_eq, beq_iff_eq, bne_iff_ne, ne_eq, Bool.not_eq_true']); omega)) ?_; walk_say "m ite +") | (refine ite_neg (by ((try simp only [decide_eq_true_eq, beq_iff_eq, bne_iff_ne, ne_eq, Bool.not_eq_true']); omega)) ?_; walk_say "m ite -")) | with_reducible ((with_reducible show InvEndN _ _ _ _ _ _ _); refine stop_here ?_)) | walk1 | (dsimp only; walk1) | (leave1; walk_say "STEP leave1"; try dsimp only) | fail "no step"))
  refine Stop.of ?_
  rename News _ _ _ [(_, _)] => nN
  rename Fr _ _ _ _ => nF
  have ho := (show (hd.heap_1 w.params).lookup 68 = some _ from by k_is)
  rename _ < _ => l1
  refine items_join (FmInv _ c t) ⟨⟨rfl, rfl, trivial⟩, [], 0, rfl, .nil⟩ ?_ ?_
  · intro i a ha m n ⟨hb, vs, k, hn, hs⟩ IH
    subst hn
    have hvl : vs.length = min i 10 := by
      have := strs_length hs
      rw [this, List.length_map, List.length_take]; rfl
    have hlt : i < 10 := by
      rcases Nat.lt_or_ge i 10 with h | h
      · exact h
      · have : (enumItems 0 [Value.ref 36, .ref 38, .ref 40, .ref 44, .ref 46, .ref 48, .ref 52, .ref 54, .ref 56, .ref 60]).length ≤ i := h
        exfalso
        have e := List.getElem?_eq_none (l := enumItems 0 [Value.ref 36, .ref 38, .ref 40, .ref 44, .ref 46, .ref 48, .ref 52, .ref 54, .ref 56, .ref 60]) h
        exact absurd (ha.symm.trans e) (fun q => nomatch q)
    replace IH := Hid.mk IH
    clear nF nN
    have hi : i = 0 ∨ i = 1 ∨ i = 2 ∨ i = 3 ∨ i = 4 ∨ i = 5 ∨ i = 6 ∨ i = 7 ∨ i = 8 ∨ i = 9 := by omega
    have hvl' : vs.length ≤ 10 := by omega
    clear hlt hvl
    rcases hi with rfl | rfl | rfl | rfl | rfl | rfl | rfl | rfl | rfl | rfl
    · obtain rfl := Option.some.inj ha
      refine fm_turn (es := [(40960, Str.ofString "l"), (49152, Str.ofString "s"), (32768, Str.ofString "-"), (24576, Str.ofString "b"), (16384, Str.ofString "d"), (8192, Str.ofString "c"), (4096, Str.ofString "p")]) ho rfl B' X' T' (by passes_own) l1 rfl (by k_is) rfl rfl ⟨?_⟩ hvl' hb ⟨fun m' t' n' hb' => IH.out _ _ (fm_inv hb' hs rfl (pick_0 h0))⟩
      exact ⟨⟨_, _, _, rfl, _, X' _ _ (by k_is), rfl, _, rfl⟩, ⟨_, _, _, rfl, _, X' _ _ (by k_is), rfl, _, rfl⟩, ⟨_, _, _, rfl, _, X' _ _ (by k_is), rfl, _, rfl⟩, ⟨_, _, _, rfl, _, X' _ _ (by k_is), rfl, _, rfl⟩, ⟨_, _, _, rfl, _, X' _ _ (by k_is), rfl, _, rfl⟩, ⟨_, _, _, rfl, _, X' _ _ (by k_is), rfl, _, rfl⟩, ⟨_, _, _, rfl, _, X' _ _ (by k_is), rfl, _, rfl⟩, trivial⟩
    · obtain rfl := Option.some.inj ha
      refine fm_turn (es := [(256, Str.ofString "r")]) ho rfl B' X' T' (by passes_own) l1 rfl (by k_is) rfl rfl ⟨?_⟩ hvl' hb ⟨fun m' t' n' hb' => IH.out _ _ (fm_inv hb' hs rfl (pick_r (by decide) (and_bit h0 8 (b := 256) rfl) (by decide) (by have := rights_0 c; omega)))⟩
      exact ⟨⟨_, _, _, rfl, _, X' _ _ (by k_is), rfl, _, rfl⟩, trivial⟩
    · obtain rfl := Option.some.inj ha
      refine fm_turn (es := [(128, Str.ofString "w")]) ho rfl B' X' T' (by passes_own) l1 rfl (by k_is) rfl rfl ⟨?_⟩ hvl' hb ⟨fun m' t' n' hb' => IH.out _ _ (fm_inv hb' hs rfl (pick_w (by decide) (and_bit h0 7 (b := 128) rfl) (by decide) (by have := rights_0 c; omega)))⟩
      exact ⟨⟨_, _, _, rfl, _, X' _ _ (by k_is), rfl, _, rfl⟩, trivial⟩
    · obtain rfl := Option.some.inj ha
      refine fm_turn (es := [(2112, Str.ofString "s"), (2048, Str.ofString "S"), (64, Str.ofString "x")]) ho rfl B' X' T' (by passes_own) l1 rfl (by k_is) rfl rfl ⟨?_⟩ hvl' hb ⟨fun m' t' n' hb' => IH.out _ _ (fm_inv hb' hs rfl (pick_x (by decide) (and_bit h0 6 (b := 64) rfl) (and_bit h0 11 (b := 2048) rfl) (and_two h0 6 11 (by decide) (d := 2112) (a := 64) (b := 2048) rfl rfl rfl) rfl (by decide) (by decide) (by have := rights_0 c; omega) (above_0 c) (by decide) (fun p q => x_s p q (by decide)) (fun p q => x_S p q (by decide))))⟩
      exact ⟨⟨_, _, _, rfl, _, X' _ _ (by k_is), rfl, _, rfl⟩, ⟨_, _, _, rfl, _, X' _ _ (by k_is), rfl, _, rfl⟩, ⟨_, _, _, rfl, _, X' _ _ (by k_is), rfl, _, rfl⟩, trivial⟩
    · obtain rfl := Option.some.inj ha
      refine fm_turn (es := [(32, Str.ofString "r")]) ho rfl B' X' T' (by passes_own) l1 rfl (by k_is) rfl rfl ⟨?_⟩ hvl' hb ⟨fun m' t' n' hb' => IH.out _ _ (fm_inv hb' hs rfl (pick_r (by decide) (and_bit h0 5 (b := 32) rfl) (by decide) (by have := rights_1 c; omega)))⟩
      exact ⟨⟨_, _, _, rfl, _, X' _ _ (by k_is), rfl, _, rfl⟩, trivial⟩
    · obtain rfl := Option.some.inj ha
      refine fm_turn (es := [(16, Str.ofString "w")]) ho rfl B' X' T' (by passes_own) l1 rfl (by k_is) rfl rfl ⟨?_⟩ hvl' hb ⟨fun m' t' n' hb' => IH.out _ _ (fm_inv hb' hs rfl (pick_w (by decide) (and_bit h0 4 (b := 16) rfl) (by decide) (by have := rights_1 c; omega)))⟩
      exact ⟨⟨_, _, _, rfl, _, X' _ _ (by k_is), rfl, _, rfl⟩, trivial⟩
    · obtain rfl := Option.some.inj ha
      refine fm_turn (es := [(1032, Str.ofString "s"), (1024, Str.ofString "S"), (8, Str.ofString "x")]) ho rfl B' X' T' (by passes_own) l1 rfl (by k_is) rfl rfl ⟨?_⟩ hvl' hb ⟨fun m' t' n' hb' => IH.out _ _ (fm_inv hb' hs rfl (pick_x (by decide) (and_bit h0 3 (b := 8) rfl) (and_bit h0 10 (b := 1024) rfl) (and_two h0 3 10 (by decide) (d := 1032) (a := 8) (b := 1024) rfl rfl rfl) rfl (by decide) (by decide) (by have := rights_1 c; omega) (above_1 c) (by decide) (fun p q => x_s p q (by decide)) (fun p q => x_S p q (by decide))))⟩
      exact ⟨⟨_, _, _, rfl, _, X' _ _ (by k_is), rfl, _, rfl⟩, ⟨_, _, _, rfl, _, X' _ _ (by k_is), rfl, _, rfl⟩, ⟨_, _, _, rfl, _, X' _ _ (by k_is), rfl, _, rfl⟩, trivial⟩
    · obtain rfl := Option.some.inj ha
      refine fm_turn (es := [(4, Str.ofString "r")]) ho rfl B' X' T' (by passes_own) l1 rfl (by k_is) rfl rfl ⟨?_⟩ hvl' hb ⟨fun m' t' n' hb' => IH.out _ _ (fm_inv hb' hs rfl (pick_r (by decide) (and_bit h0 2 (b := 4) rfl) (by decide) (by have := rights_2 c; omega)))⟩
      exact ⟨⟨_, _, _, rfl, _, X' _ _ (by k_is), rfl, _, rfl⟩, trivial⟩
    · obtain rfl := Option.some.inj ha
      refine fm_turn (es := [(2, Str.ofString "w")]) ho rfl B' X' T' (by passes_own) l1 rfl (by k_is) rfl rfl ⟨?_⟩ hvl' hb ⟨fun m' t' n' hb' => IH.out _ _ (fm_inv hb' hs rfl (pick_w (by decide) (and_bit h0 1 (b := 2) rfl) (by decide) (by have := rights_2 c; omega)))⟩
      exact ⟨⟨_, _, _, rfl, _, X' _ _ (by k_is), rfl, _, rfl⟩, trivial⟩
    · obtain rfl := Option.some.inj ha
      refine fm_turn (es := [(513, Str.ofString "t"), (512, Str.ofString "T"), (1, Str.ofString "x")]) ho rfl B' X' T' (by passes_own) l1 rfl (by k_is) rfl rfl ⟨?_⟩ hvl' hb ⟨fun m' t' n' hb' => IH.out _ _ (fm_inv hb' hs rfl (pick_x (by decide) (and_bit h0 0 (b := 1) rfl) (and_bit h0 9 (b := 512) rfl) (and_two h0 0 9 (by decide) (d := 513) (a := 1) (b := 512) rfl rfl rfl) rfl (by decide) (by decide) (by have := rights_2 c; omega) (above_2 c) (by decide) (fun p q => x_t p q rfl) (fun p q => x_T p q rfl)))⟩
      exact ⟨⟨_, _, _, rfl, _, X' _ _ (by k_is), rfl, _, rfl⟩, ⟨_, _, _, rfl, _, X' _ _ (by k_is), rfl, _, rfl⟩, ⟨_, _, _, rfl, _, X' _ _ (by k_is), rfl, _, rfl⟩, trivial⟩
  · rintro m n ⟨hb, vs, k, hn, hs⟩
    subst hn
    have hvl := strs_length hs
    refine ItemsRest.zero ?_
    intro h tk kF kN
    clear nF nN
    rw [← kstB_self hb.all] at kF
    dsimp only [kstB] at kF
    replace hs : StrsAre vs ((figsM c).map sgnS) := hs
    (repeat' (first | (k_unfold; (try dsimp only)) | (first | with_reducible (k_here; (with_reducible show wpAny _ _ (call (Value.builtin _) [Value.str _ _, Value.ref _]) _ _ _); k_dflt (refine join_listW (by is_list) (by assumption) (by decide +kernel) (signs_weight _) ?_); intro t9 k9) | with_reducible ((with_reducible show ForRest _ _ _ _ _ _ _ _ _ _ _); refine stop_here ?_) | with_reducible ((with_reducible show ForPost _ _ _ _ _ _ _ _ _ _ _ _); dsimp only [ForPost]) | with_reducible (k_here; (with_reducible show wpAny _ _ (pyIter (Value.ref _)) (fun it s₂ => ForAt _ _ _ _ _ _ _ _ _ it s₂) _ _); (with_unfolding_all refine' tupFor_start (by k_asm) (by k_asm) (by k_asm) (by first | assumption | k_is) (by first | assumption | exact rfl) (by first | assumption | exact rfl) ?_; k_whole); intro i9 h9 o9 hlt9 hoc9 hod9 F9 N9; (have l9 := hlt9); (try k_lt l9); (try dsimp only)) | with_reducible (k_here; (with_reducible show wpAny _ _ (exec (Stmt.For _ _ _ (List.cons _ _) _) _) _ _ _); (refine for_start ?_ (by intro _; with_unfolding_all rfl)); k_whole) | with_reducible ((with_reducible show ItemsRest _ _ _ _ _ _ _ _ _ _ _ _ _ _ _); refine stop_here ?_) | with_reducible ((with_reducible show wpAny _ _ (call (Value.type "enumerate") _ _) _ _ _); (k_here; (with_unfolding_all refine' enum_tupK (by with_unfolding_all rfl) (by k_asm) (by k_asm) (by k_asm) (by k_is) (by exact rfl) (by exact rfl) (by exact rfl) ?_; k_whole); intro i' l1; (try k_lt l1))) | with_reducible ((with_reducible show wpAny _ _ (exec (Stmt.For (Expr.Tuple _ _ _) (Expr.Call _ _ _ _) _ _ _) _) _ _ _); (k_here; (rename Fr _ _ _ _ => lF'); (with_unfolding_all refine' For_turns lF' ?_; k_whole))) | with_reducible ((with_reducible show wpAny _ _ (exec (Stmt.For (Expr.Tuple _ _ _) (Expr.Call _ _ _ _) (List.cons _ _) [] _) _) _ _ _); (k_here; (rename Fr _ _ _ _ => lF'); (with_unfolding_all refine' For_turns lF' ?_; k_whole))) | with_reducible ((with_reducible show ite _ _ _); first | (refine ite_pos (by ((try simp only [decide_eq_true_eq, beq_iff_eq, bne_iff_ne, ne_eq, Bool.not_eq_true']); omega)) ?_; walk_say "m ite +") | (refine ite_neg (by ((try simp only [decide_eq_true_eq, beq_iff_eq, bne_iff_ne, ne_eq, Bool.not_eq_true']); omega)) ?_; walk_say "m ite -")) | with_reducible ((with_reducible show InvEndN _ _ _ _ _ _ _); refine stop_here ?_)) | walk1 | (dsimp only; walk1) | (leave1; walk_say "STEP leave1"; try dsimp only) | fail "no step"))
    all_goals ((try k_unfold); (try dsimp only); rename Fr _ _ _ _ => nF; exact hret.out _ _ _ nF.keep)

section
variable {w : World} {loose : List Str} {mean : ExcName → Option Value} {mg mb : Str → Option Value} {A₀ A : Around} {base h₀ : Heap} {outer : List Env} {s : Shared} {Q E : Value → Shared → Prop} {L : Addr} {m : Str → Option Value} {news : List (Addr × Obj)} {env : Env}
theorem filemode_use {c : Int} {t : Tok} (B : Below A₀ base outer h₀) (F : Fr h₀ L s.heap m) (X : (hd.heap_1 w.params).In h₀) (N : News h₀ L s.heap news) (T : Top topProg loose mean mg mb h₀)
    (hA : A.frames = some (env :: outer)) (hf : env.frame = some L) (hk : env.scope.kind = .function) (hh : A.handled = none) (hd : A.depth ≤ 890) (hu : A.units ≤ 8900)
    (h0 : 0 ≤ c) (h1 : c < 4294967296)
    (h : ∀ t' h' tk', Fr h₀ L h' m → News h₀ L h' news → Q (.str (modeS c) t') { s with heap := h', toks := tk' }) :
    wpAny (model Challenge.rw_qh0096_01.row.prog w) A (call (.ref 68) [.int c t]) Q E s :=
  wpAny_lower (filemode_ok (Here.down B F X T rfl hf hk) h0 h1 ⟨fun h' tk' t' k => h t' h' tk' (frAfter F k) (newsAfter N k)⟩) hh hA hd hu
end
end
section
section
variable {prog : Program} {w : World} {A : Around} {E : Value → Shared → Prop} {s : Shared} {env : Env} {h₀ : Heap} {x : Str} {body : List Stmt} {Q : Flow → Shared → Prop}
/-- an iterator over a range as the ledger bears it -/
def rngIt (x left c : Int) : Obj := { cls := .type "range_iterator", data := .fields #[rawInt x, rawInt left, rawInt c] }
/-- a for over range(0, b, c), the state told turn by turn -/
theorem for_range {σ : Type} {r : Addr} {b₀ c : Int} {t₀ u₀ v₀ : Tok} {n : Nat} {m₀ : Str → Option Value} (Led : σ → List (Addr × Obj)) (ps : σ → List (Str × Value)) (P : Nat → σ → Prop) (c₀ : σ)
    (hh : A.handled = none) (hr : IsRange s.heap r 0 b₀ c t₀ u₀ v₀) (hsmall : Builtin.Range.small 0 b₀ c = true) (hn : Builtin.Range.rangeSize 0 b₀ c = (n : Int))
    (F : Fr h₀ env.locals s.heap m₀) (N : News h₀ env.locals s.heap (Led c₀)) (hk : Binds m₀ (ps c₀)) (hp : P 0 c₀)
    (turn : ∀ (d : σ) (i : Nat) t u h tk I y l, i < n → (∀ a ∈ (Led c₀).map (·.1), a < I) → P i d →
      Fr h₀ env.locals h (fun z => if z = x then some (.int ((i : Int) * c) t) else kstB u (ps d) z) → News h₀ env.locals h ((I, rngIt y l c) :: Led d) →
      wpAny (model prog w) A (execs body env) (InvPostN h₀ env.locals (TurnJ Led ps (P (i + 1))) [(I, rngIt y l c)] ((Led c₀).map (·.1)) { s with heap := h, toks := tk } Q) E { s with heap := h, toks := tk })
    (done : ∀ (d : σ) u h tk, P n d → Fr h₀ env.locals h (kstB u (ps d)) → News h₀ env.locals h (Led d) → Q .next { s with heap := h, toks := tk }) :
    wpAny (model prog w) A (pyIter (.ref r)) (fun it s₂ => LoopAtV prog w A h₀ env x body Q E it s₂) E s := by
  have hI0 : h₀.get? s.heap.objs.size = none := next_is_new F
  have hLs : env.locals < s.heap.objs.size := F.ns.lt
  have hlt : ∀ a ∈ (Led c₀).map (·.1), a < s.heap.objs.size := fun a ha => by
    obtain ⟨p, hp, rfl⟩ := List.mem_map.mp ha
    exact Heap.lt_size (N p hp).1
  have off : ∀ nx : List (Addr × Obj), nx.map (·.1) = (Led c₀).map (·.1) → ∀ p ∈ nx, p.1 ∉ [s.heap.objs.size] := fun nx e p hp hm => by
    have h1 : p.1 ∈ (Led c₀).map (·.1) := e ▸ List.mem_map.mpr ⟨p, hp, rfl⟩
    exact absurd (hlt _ h1) ((List.mem_singleton.mp hm) ▸ Nat.lt_irrefl _)
  refine wpAny_pyIter_range hr hsmall ?_
  refine ⟨_, _, _, n, _, _, m₀, Led c₀, (fun i m nx => nx.map (·.1) = (Led c₀).map (·.1) ∧ TurnJ Led ps (P i) m nx), rfl, Walks.range (prog := prog) (w := w) hh s.heap.objs.size 0 c n, ?_, ?_, off _ rfl, (by show IsRangeIter _ _ _ _ _; rw [hn]; simpa using Heap.get?_push_size _ rfl), F.push _,
    (fun p hp => ⟨Heap.get?_push_of_some _ (N p hp).1, (N p hp).2⟩), ⟨rfl, c₀, rfl, hk.all, hp⟩, ?_, ?_⟩
  · exact fun hm => absurd hLs ((List.mem_singleton.mp hm) ▸ Nat.lt_irrefl _)
  · intro b hb; rw [List.mem_singleton.mp hb]; exact hI0
  · rintro i v m₁ nx s₁ own ⟨h, tk, rfl⟩ hi ⟨t, rfl⟩ ⟨hadr, d, rfl, hb, hP⟩ hoff hown hget hall hst F₁ N₁
    have ho : h.get? s.heap.objs.size = some (rngIt (0 + ((i + 1 : Nat) : Int) * c) ((n : Int) - ((i + 1 : Nat) : Int)) c) := hst
    have hmem := hall _ (List.mem_singleton.mpr rfl) hI0 _ ho
    have N₂ : News h₀ env.locals h ((s.heap.objs.size, rngIt (0 + ((i + 1 : Nat) : Int) * c) ((n : Int) - ((i + 1 : Nat) : Int)) c) :: Led d) := by
      intro p hp
      rcases List.mem_cons.mp hp with rfl | hp
      · exact N₁ _ (List.mem_append_left _ hmem)
      · exact N₁ _ (List.mem_append_right _ hp)
    have F₂ : Fr h₀ env.locals h (fun z => if z = x then some (.int ((i : Int) * c) t) else kstB m₁ (ps d) z) := by
      rw [kstB_self hb]
      simpa using F₁
    refine wpAny_mono (turn d i t m₁ h tk _ _ _ hi hlt hP F₂ N₂) (fun f s₂ p => ?_) fun _ _ e => e
    have fin : ∀ s₃, InvEndN h₀ env.locals (TurnJ Led ps (P (i + 1))) [(s.heap.objs.size, rngIt (0 + ((i + 1 : Nat) : Int) * c) ((n : Int) - ((i + 1 : Nat) : Int)) c)] ((Led c₀).map (·.1)) { s with heap := h, toks := tk } s₃ →
        LoopStepU h₀ env.locals [s.heap.objs.size] own (fun m nx => nx.map (·.1) = (Led c₀).map (·.1) ∧ TurnJ Led ps (P (i + 1)) m nx) { s with heap := h, toks := tk } .next s₃ := by
      rintro s₃ ⟨h', tk', m', news', nx', e, F', N', hn', ho', ha, hm⟩
      refine ⟨rfl, h', tk', m', nx', e, F', fun q hq => ?_, off _ ha, ha, hm⟩
      rcases List.mem_append.mp hq with hq | hq
      · have h1 : q.1 = s.heap.objs.size := List.mem_singleton.mp (hown q hq)
        have h2 := hget q hq
        have h3 : q = (s.heap.objs.size, rngIt (0 + ((i + 1 : Nat) : Int) * c) ((n : Int) - ((i + 1 : Nat) : Int)) c) := by
          obtain ⟨q1, q2⟩ := q
          dsimp only at h1 h2
          subst h1
          rw [ho] at h2
          rw [← Option.some.inj h2]
        rw [h3]
        exact N' _ (ho' _ (.head _))
      · exact N' q (hn' q hq)
    cases f with
    | ret v => exact .ret p
    | brk => exact .brk p
    | next => exact .next (fin _ p)
    | cont => exact .cont (fin _ p)
  · rintro h' tk m' nx F' N' _ ⟨_, d, rfl, hb, hP⟩
    refine done d m' h' tk hP ?_ N'
    rw [kstB_self hb]; exact F'
end
end
section
/-- the octets that figures of six bits fill -/
def octsM : List Int → List Int
  | a :: b :: c :: d :: r => (((a * 64 + b) * 64 + c) * 64 + d) / 65536 :: (((a * 64 + b) * 64 + c) * 64 + d) / 256 % 256 :: (((a * 64 + b) * 64 + c) * 64 + d) % 256 :: octsM r
  | [a, b, c] => [(((a * 64 + b) * 64 + c) * 64) / 65536, (((a * 64 + b) * 64 + c) * 64) / 256 % 256]
  | [a, b] => [(((a * 64 + b) * 64) * 64) / 65536]
  | _ => []
structure OctS where
  vs : List Value
  ns : List Int
  ep : Nat
abbrev octLed (D : Addr) (d : OctS) : List (Addr × Obj) := [(D, W.listOf d.vs.toArray d.ep)]
abbrev octPs (D a : Addr) (_ : OctS) : List (Str × Value) := [(Str.ofString "octets", .ref D), (Str.ofString "figures", .ref a)]
structure OctP (fs : List Int) (i : Nat) (d : OctS) : Prop where
  hints : IntsAre d.vs d.ns
  hlen : d.ns.length ≤ 3 * i
  hst : octsM fs = d.ns ++ octsM (fs.drop (4 * i))
theorem size4 (k : Nat) : Builtin.Range.rangeSize 0 (k : Int) 4 = (((k + 3) / 4 : Nat) : Int) := by
  unfold Builtin.Range.rangeSize
  simp
  omega
theorem small4 {k : Nat} (h : k ≤ 62) : Builtin.Range.small 0 (k : Int) 4 = true := by
  have key : ∀ k : Fin 63, Builtin.Range.small 0 (k.val : Int) 4 = true := by decide +kernel
  exact key ⟨k, by omega⟩
theorem octsM_in : ∀ (fs : List Int), (∀ f ∈ fs, 0 ≤ f ∧ f < 64) → KBa.In (octsM fs)
  | a :: b :: c :: d :: r, h => by
    have ih := octsM_in r fun f hf => h f (by simp [hf])
    simp only [List.forall_mem_cons] at h
    intro x hx
    simp only [octsM, List.mem_cons] at hx
    rcases hx with rfl | rfl | rfl | hx
    · omega
    · omega
    · omega
    · exact ih x hx
  | [a, b, c], h => by
    simp only [List.forall_mem_cons] at h
    intro x hx
    simp only [octsM, List.mem_cons, List.not_mem_nil, or_false] at hx
    rcases hx with rfl | rfl <;> omega
  | [a, b], h => by
    simp only [List.forall_mem_cons] at h
    intro x hx
    simp only [octsM, List.mem_cons, List.not_mem_nil, or_false] at hx
    subst hx; omega
  | [_], _ => fun _ hx => nomatch hx
  | [], _ => fun _ hx => nomatch hx
theorem oct_turn {fs ns gs : List Int} {xs gv : List Value} {i ep : Nat} (hI : IntsAre xs ns) (hlen : ns.length ≤ 3 * i) (hst : octsM fs = ns ++ octsM (fs.drop (4 * i))) (hg : IntsAre gv gs) (hl : gs.length ≤ 3)
    (hs : octsM (fs.drop (4 * i)) = gs ++ octsM ((fs.drop (4 * i)).drop 4)) : OctP fs (i + 1) ⟨xs ++ gv, ns ++ gs, ep⟩ := by
  refine ⟨IntsAre.append hI hg, by simp only [List.length_append]; omega, ?_⟩
  rw [hst, hs, List.drop_drop, List.append_assoc]
  rfl
theorem mem_single {α : Type} {x : α} {l : List α} (h : x ∈ l) : ∀ p ∈ [x], p ∈ l := fun p hp => by rw [List.mem_singleton.mp hp]; exact h
section
variable {prog : Program} {w : World} {A : Around} {E : Value → Shared → Prop} {s : Shared} {h₀ : Heap} {L D b : Addr} {m : Str → Option Value} {news news' : List (Addr × Obj)} {its its2 : Array Value} {n n2 : Nat} {l : List Value} {Q : Value → Shared → Prop}
theorem turn_end_of {σ : Type} {Led : σ → List (Addr × Obj)} {ps : σ → List (Str × Value)} {P : σ → Prop} {h' : Heap} {tk : Nat} {m' : Str → Option Value} {own : List (Addr × Obj)} {adr : List Addr} {s₁ : Shared} {c : σ} (hP : P c)
    (F : Fr h₀ L h' m') (N : News h₀ L h' news') (hl : ∀ p ∈ Led c, p ∈ news') (ho : ∀ p ∈ own, p ∈ news') (ha : (Led c).map (·.1) = adr) (hb : Binds m' (ps c)) :
    InvEndN h₀ L (TurnJ Led ps P) own adr s₁ { s₁ with heap := h', toks := tk } := turn_end c F N hl ho ha hb hP
theorem not_too_long {k : Nat} (h : k ≤ 1000) {b : Bool} : ¬(!b && Builtin.List.listTooLong k) = true := by
  have : Builtin.List.listTooLong k = false := by
    unfold Builtin.List.listTooLong
    rw [sizeLine_eq]
    simp
    omega
  rw [this]; simp
theorem ext_two {xs rv : List Value} {news₁ news₂ : List (Addr × Obj)} (F : Fr h₀ L s.heap m) (N : News h₀ L s.heap news) (hb : (b, W.listOf rv.toArray n2) ∈ news) (hk : xs.length + rv.length ≤ 1000)
    (U₁ : Upd D (W.listOf xs.toArray n) (W.listOf (xs ++ rv).toArray (n + 1)) news news₁) (U₂ : Upd D (W.listOf xs.toArray n) (W.listOf (xs ++ rv).toArray n) news news₂)
    (h₁ : ∀ h', Fr h₀ L h' m → News h₀ L h' news₁ → Q .none { s with heap := h' }) (h₂ : ∀ h', Fr h₀ L h' m → News h₀ L h' news₂ → Q .none { s with heap := h' }) :
    wpAny (model prog w) A (call (.builtin "list.extend") [.ref D, .ref b]) Q E s := by
  have hz : xs.toArray.size + rv.toArray.size ≤ 1000 := by simpa using hk
  cases rv with
  | nil =>
    rw [List.append_nil] at U₂
    exact kxn_extend F N hb rfl U₂ (not_too_long hz) (by rw [Array.length_toList, sizeLine_eq]; omega) (by rw [sizeLine_eq]; omega) h₂
  | cons r0 rv => exact kl_extend F N hb (by simp) (Nat.succ_ne_zero _) U₁ (not_too_long hz) (by rw [Array.length_toList, sizeLine_eq]; omega) (by rw [sizeLine_eq]; omega) h₁
end
/-- the number that six-bit figures write -/
def numF (gs : List Int) : Int := gs.foldl (fun n f => n * 64 + f) 0
theorem numF_step {gs : List Int} {i : Nat} {x : Int} (h : gs[i]? = some x) : numF (gs.take i) * 64 + x = numF (gs.take (i + 1)) := by
  rw [List.take_add_one, h]
  simp [numF, List.foldl_append]
theorem ints_take {vs : List Value} {xs : List Int} (h : IntsAre vs xs) : xs.take (vs.map Itm.val).length = xs := List.take_of_length_le (by rw [List.length_map, h.length]; exact Nat.le_refl _)
theorem oct_group {fs gs gp : List Int} {i : Nat} (hg : (fs.drop (4 * i)).take 4 = gs) (hp : gs ++ (List.replicate (4 - (gs.length : Int)).toNat [(0 : Int)]).flatten = gp) (hi : 4 * i < fs.length) :
    octsM (fs.drop (4 * i)) = List.take ((gs.length : Int) - 1).toNat [(numF gp).fdiv 65536, ((numF gp).fdiv 256).fmod 256, (numF gp).fmod 256] ++ octsM ((fs.drop (4 * i)).drop 4) := by
  have hl : 0 < (fs.drop (4 * i)).length := by rw [List.length_drop]; omega
  subst hp hg
  generalize fs.drop (4 * i) = r at hl
  rcases r with _ | ⟨f1, _ | ⟨f2, _ | ⟨f3, _ | ⟨f4, r⟩⟩⟩⟩
  · simp at hl
  all_goals (simp [octsM, numF, Int.fdiv_eq_ediv_of_nonneg, Int.fmod_eq_emod_of_nonneg])
theorem ints_val {vs : List Value} {xs : List Int} (h : IntsAre vs xs) : ∀ {i : Nat} {a : Itm}, (vs.map Itm.val)[i]? = some a → ∃ x t, xs[i]? = some x ∧ a = .val (.int x t) := by
  induction h with
  | nil => intro i a e; simp at e
  | cons x t _ ih =>
    intro i a e
    cases i with
    | zero => simp only [List.map_cons, List.getElem?_cons_zero] at e; cases e; exact ⟨x, t, rfl, rfl⟩
    | succ i => simp only [List.map_cons, List.getElem?_cons_succ] at e; exact ih e
structure Mark : Prop where
  out : True
theorem octets_ok {w : World} {loose : List Str} {mean : ExcName → Option Value} {mg mb : Str → Option Value} {base : Heap} {outer : List Env} {gd : Option (List Code)} {s : Shared} {Q E : Value → Shared → Prop} {a : Addr} {vs : List Value} {fs : List Int}
    (H : Here w loose mean mg mb (Aat 900 9000 outer gd) base outer s.heap) (hL : s.heap.IsList a vs.toArray) (hI : IntsAre vs fs) (hlen : fs.length ≤ 62) (hin : ∀ f ∈ fs, 0 ≤ f ∧ f < 64)
    (hret : Hid (∀ h' tk' t', Keeps s.heap h' → Q (.bytes (byteArr (octsM fs)) t') { s with heap := h', toks := tk' })) :
    wpAny (model Challenge.rw_qh0096_01.row.prog w) (Aat 900 9000 outer gd) (call (.ref 191) [.ref a]) Q E s := by
  have X := H.X
  revert X; k_fill; intro X
  refine' enter [(Str.ofString "figures", .ref a)] H ?k6 ?k7 ?k8 ?k9 ?kB ?_ ?c2 ?c3 ?c4 ?c5
  (k_dflt ((case k6 => k_is); (case k7 => k_is); (case k8 => k_room); (case k9 => first | exact BindsTo.of_eq rfl | exact binds_K (by k_in) rfl (by k_is) rfl rfl rfl); (case c5 => decide); (case kB => exact locs rfl); (case c2 => exact rfl); (case c3 => exact rfl); (case c4 => exact rfl)))
  clear H X
  have hvl := hI.length
  intro L' h' tk' F' N' B' X' T'
  try dsimp only
  k_fold
  (repeat' (first | (k_unfold; (try dsimp only)) | (first | with_reducible (k_here; (with_reducible show wpAny _ _ (exec (Stmt.For (Expr.Name _ _) (Expr.BinOp _ _ _ _) _ [] _) _) _ _ _); first | ((rename Mark => _mk); (rename Fr _ _ _ _ => lF'); (with_unfolding_all refine' For_turns lF' ?_; k_whole)) | refine stop_here ?_) | with_reducible ((with_reducible show wpAny _ _ (call (Value.builtin _) [Value.ref _, Value.ref _]) _ _ _); refine stop_here ?_) | with_reducible ((with_reducible show wpAny _ _ (pyIter _) (fun it s₂ => LoopAtV _ _ _ _ _ (Str.ofString "k") _ _ _ it s₂) _ _); refine stop_here ?_) | with_reducible ((with_reducible show ItemsRest _ _ _ _ _ _ _ _ _ _ _ _ _ _ _); refine stop_here ?_) | with_reducible ((with_reducible show ite _ _ _); first | (refine ite_pos (by ((try simp only [decide_eq_true_eq, beq_iff_eq, bne_iff_ne, ne_eq, Bool.not_eq_true']); omega)) ?_; walk_say "m ite +") | (refine ite_neg (by ((try simp only [decide_eq_true_eq, beq_iff_eq, bne_iff_ne, ne_eq, Bool.not_eq_true']); omega)) ?_; walk_say "m ite -")) | with_reducible ((with_reducible show InvEndN _ _ _ _ _ _ _); refine stop_here ?_)) | walk1 | (dsimp only; walk1) | (leave1; walk_say "STEP leave1"; try dsimp only) | fail "no step"))
  refine Stop.of ?_
  rename IsRange _ _ _ _ _ _ _ _ => hR
  rename News _ _ _ _ => nN
  rename Fr _ _ _ _ => nF
  refine for_range (octLed _) (octPs _ a) (OctP fs) ⟨[], [], 0⟩ rfl hR ?_ (size4 _) nF nN ⟨rfl, rfl, trivial⟩ ⟨.nil, Nat.le_refl _, rfl⟩ ?_ ?_
  · exact small4 hlen
  · rintro ⟨xs, ns, ep⟩ i t u h tk I9 y9 l9 hin' hI9 ⟨hI', hlen', hst⟩ kFr kNews
    clear nF nN hR
    have hI8 := hI9 _ (.head _)
    clear hI9
    change @LT.lt Nat instLTNat _ _ at hI8
    dsimp only at *
    simp only [octLed, List.nil_append, List.cons_append, List.append_nil] at kNews
    dsimp only [kstB, octPs] at kFr
    dsimp only [envOf] at kFr kNews
    have hlt : 4 * i < fs.length := by omega
    have hxl : xs.length ≤ 60 := by have := hI'.length; omega
    replace hst := Hid.mk hst
    replace hin := Hid.mk hin
    (repeat' (first | (k_unfold; (try dsimp only)) | (first | with_reducible (k_here; (with_reducible show wpAny _ _ (exec (Stmt.For (Expr.Name _ _) (Expr.BinOp _ _ _ _) _ [] _) _) _ _ _); first | ((rename Mark => _mk); (rename Fr _ _ _ _ => lF'); (with_unfolding_all refine' For_turns lF' ?_; k_whole)) | refine stop_here ?_) | with_reducible ((with_reducible show wpAny _ _ (call (Value.builtin _) [Value.ref _, Value.ref _]) _ _ _); refine stop_here ?_) | with_reducible ((with_reducible show wpAny _ _ (pyIter _) (fun it s₂ => LoopAtV _ _ _ _ _ (Str.ofString "k") _ _ _ it s₂) _ _); refine stop_here ?_) | with_reducible ((with_reducible show ItemsRest _ _ _ _ _ _ _ _ _ _ _ _ _ _ _); refine stop_here ?_) | with_reducible ((with_reducible show ite _ _ _); first | (refine ite_pos (by ((try simp only [decide_eq_true_eq, beq_iff_eq, bne_iff_ne, ne_eq, Bool.not_eq_true']); omega)) ?_; walk_say "m ite +") | (refine ite_neg (by ((try simp only [decide_eq_true_eq, beq_iff_eq, bne_iff_ne, ne_eq, Bool.not_eq_true']); omega)) ?_; walk_say "m ite -")) | with_reducible ((with_reducible show InvEndN _ _ _ _ _ _ _); refine stop_here ?_)) | walk1 | (dsimp only; walk1) | (leave1; walk_say "STEP leave1"; try dsimp only) | fail "no step"))
    refine Stop.of ?_
    rename IntsAre _ (List.take _ _) => gI
    rename (List.take _ _).length = _ => gC
    rename (List.take _ _).length ≤ _ => gL
    clear gC gL
    have gE : List.take (min ((i : Int) * 4 + 4).toNat fs.length - ((i : Int) * 4).toNat) (List.drop ((i : Int) * 4).toNat fs) = (fs.drop (4 * i)).take 4 := by
      have e1 : ((i : Int) * 4).toNat = 4 * i := by omega
      rw [e1]
      have e2 : ((i : Int) * 4 + 4).toNat = 4 * i + 4 := by omega
      rw [e2]
      rcases Nat.lt_or_ge (4 * i + 4) fs.length with h | h
      · rw [show min (4 * i + 4) fs.length - 4 * i = 4 by omega]
      · rw [List.take_of_length_le (by simp; omega), List.take_of_length_le (by simp; omega)]
    rw [gE] at gI
    have mk : Mark := ⟨trivial⟩
    have gin : ∀ f ∈ fs.drop (4 * i), 0 ≤ f ∧ f < 64 := fun f hf => hin.out f (List.mem_of_mem_drop hf)
    have gl : ((fs.drop (4 * i)).take 4).length = min 4 (fs.length - 4 * i) := by simp
    have gl2 := gI.length
    rename News _ _ _ _ => nN
    rename Fr _ _ _ _ => nF
    generalize hgs : (fs.drop (4 * i)).take 4 = gs at gI gl gl2
    replace hgs := Hid.mk hgs
    replace gin := Hid.mk gin
    have gl3 : 1 ≤ gs.length ∧ gs.length ≤ 4 := by omega
    clear gl gE
    (repeat' (first | (k_unfold; (try dsimp only)) | (first | with_reducible (k_here; (with_reducible show wpAny _ _ (exec (Stmt.For (Expr.Name _ _) (Expr.BinOp _ _ _ _) _ [] _) _) _ _ _); first | ((rename Mark => _mk); (rename Fr _ _ _ _ => lF'); (with_unfolding_all refine' For_turns lF' ?_; k_whole)) | refine stop_here ?_) | with_reducible ((with_reducible show wpAny _ _ (call (Value.builtin _) [Value.ref _, Value.ref _]) _ _ _); refine stop_here ?_) | with_reducible ((with_reducible show wpAny _ _ (pyIter _) (fun it s₂ => LoopAtV _ _ _ _ _ (Str.ofString "k") _ _ _ it s₂) _ _); refine stop_here ?_) | with_reducible ((with_reducible show ItemsRest _ _ _ _ _ _ _ _ _ _ _ _ _ _ _); refine stop_here ?_) | with_reducible ((with_reducible show ite _ _ _); first | (refine ite_pos (by ((try simp only [decide_eq_true_eq, beq_iff_eq, bne_iff_ne, ne_eq, Bool.not_eq_true']); omega)) ?_; walk_say "m ite +") | (refine ite_neg (by ((try simp only [decide_eq_true_eq, beq_iff_eq, bne_iff_ne, ne_eq, Bool.not_eq_true']); omega)) ?_; walk_say "m ite -")) | with_reducible ((with_reducible show InvEndN _ _ _ _ _ _ _); refine stop_here ?_)) | walk1 | (dsimp only; walk1) | (leave1; walk_say "STEP leave1"; try dsimp only) | fail "no step"))
    rename IntsAre _ (gs ++ _) => pI
    rename News _ _ _ _ => nN
    rename Fr _ _ _ _ => nF
    have pl : (gs ++ (List.replicate (4 - (gs.length : Int)).toNat [(0 : Int)]).flatten).length = 4 := by simp; omega
    generalize hgp : gs ++ (List.replicate (4 - (gs.length : Int)).toNat [(0 : Int)]).flatten = gp at pI pl
    replace hgp := Hid.mk hgp
    refine iter_listTurns rfl nF nN (List.Mem.head _) rfl rfl ?_
    intro I8 l8
    k_lt l8
    refine items_join (fun i m' n' => ∃ tn, Binds m' [(Str.ofString "number", .int (numF (gp.take i)) tn), (Str.ofString "group", .ref _), (Str.ofString "octets", .ref _), (Str.ofString "figures", .ref a)] ∧ n' = _) ⟨_, ⟨rfl, rfl, rfl, rfl, trivial⟩, rfl⟩ ?_ ?_
    · intro i7 v7 hv7 m7 n7 ⟨tn, hb7, hn7⟩ IH
      subst hn7
      obtain ⟨x7, t7, hx7, rfl⟩ := ints_val pI hv7
      replace IH := Hid.mk IH
      replace hx7 := Hid.mk hx7
      clear hv7
      clear nF nN
      refine ItemsRest.val ?_
      intro h7 tk7 kF
      refine AllObj.cons fun o1 hc1 => AllObj.nil fun kN => ?_
      simp only [List.cons_append, List.nil_append] at kN
      rw [← kstB_self hb7.all] at kF
      dsimp only [kstB] at kF
      (repeat' (first | (k_unfold; (try dsimp only)) | (first | with_reducible (k_here; (with_reducible show wpAny _ _ (exec (Stmt.For (Expr.Name _ _) (Expr.BinOp _ _ _ _) _ [] _) _) _ _ _); first | ((rename Mark => _mk); (rename Fr _ _ _ _ => lF'); (with_unfolding_all refine' For_turns lF' ?_; k_whole)) | refine stop_here ?_) | with_reducible ((with_reducible show wpAny _ _ (call (Value.builtin _) [Value.ref _, Value.ref _]) _ _ _); refine stop_here ?_) | with_reducible ((with_reducible show wpAny _ _ (pyIter _) (fun it s₂ => LoopAtV _ _ _ _ _ (Str.ofString "k") _ _ _ it s₂) _ _); refine stop_here ?_) | with_reducible ((with_reducible show ItemsRest _ _ _ _ _ _ _ _ _ _ _ _ _ _ _); refine stop_here ?_) | with_reducible ((with_reducible show ite _ _ _); first | (refine ite_pos (by ((try simp only [decide_eq_true_eq, beq_iff_eq, bne_iff_ne, ne_eq, Bool.not_eq_true']); omega)) ?_; walk_say "m ite +") | (refine ite_neg (by ((try simp only [decide_eq_true_eq, beq_iff_eq, bne_iff_ne, ne_eq, Bool.not_eq_true']); omega)) ?_; walk_say "m ite -")) | with_reducible ((with_reducible show InvEndN _ _ _ _ _ _ _); refine stop_here ?_)) | walk1 | (dsimp only; walk1) | (leave1; walk_say "STEP leave1"; try dsimp only) | fail "no step"))
      exact Stop.of (IH.out _ _ ⟨_, ⟨congrArg (fun z => some (Value.int z _)) (numF_step hx7.out), rfl, rfl, rfl, trivial⟩, rfl⟩)
    · intro m7 n7 ⟨tn, hb7, hn7⟩
      subst hn7
      rw [ints_take pI] at hb7
      clear nF nN
      refine ItemsRest.zero ?_
      intro h7 tk7 kF kN
      rw [← kstB_self hb7.all] at kF
      dsimp only [kstB] at kF
      (repeat' (first | (k_unfold; (try dsimp only)) | (first | with_reducible (k_here; (with_reducible show wpAny _ _ (exec (Stmt.For (Expr.Name _ _) (Expr.BinOp _ _ _ _) _ [] _) _) _ _ _); first | ((rename Mark => _mk); (rename Fr _ _ _ _ => lF'); (with_unfolding_all refine' For_turns lF' ?_; k_whole)) | refine stop_here ?_) | with_reducible ((with_reducible show wpAny _ _ (call (Value.builtin _) [Value.ref _, Value.ref _]) _ _ _); refine stop_here ?_) | with_reducible ((with_reducible show wpAny _ _ (pyIter _) (fun it s₂ => LoopAtV _ _ _ _ _ (Str.ofString "k") _ _ _ it s₂) _ _); refine stop_here ?_) | with_reducible ((with_reducible show ItemsRest _ _ _ _ _ _ _ _ _ _ _ _ _ _ _); refine stop_here ?_) | with_reducible ((with_reducible show ite _ _ _); first | (refine ite_pos (by ((try simp only [decide_eq_true_eq, beq_iff_eq, bne_iff_ne, ne_eq, Bool.not_eq_true']); omega)) ?_; walk_say "m ite +") | (refine ite_neg (by ((try simp only [decide_eq_true_eq, beq_iff_eq, bne_iff_ne, ne_eq, Bool.not_eq_true']); omega)) ?_; walk_say "m ite -")) | with_reducible ((with_reducible show InvEndN _ _ _ _ _ _ _); refine stop_here ?_)) | walk1 | (dsimp only; walk1) | (leave1; walk_say "STEP leave1"; try dsimp only) | fail "no step"))
      refine Stop.of ?_
      rename IntsAre _ (List.take _ [_, _, _]) => rI
      rename News _ _ _ _ => nN
      rename Fr _ _ _ _ => nF
      have rl := rI.length
      have rl3 : (List.take ((gs.length : Int) - 1).toNat [(numF gp).fdiv 65536, ((numF gp).fdiv 256).fmod 256, (numF gp).fmod 256]).length ≤ 3 := by rw [List.length_take]; simp only [List.length_cons, List.length_nil]; omega
      have rl4 := Nat.le_trans (Nat.le_of_eq rl) rl3
      have hP := fun ep => oct_turn (ep := ep) hI' hlen' hst.out rI rl3 (oct_group hgs.out hgp.out hlt)
      replace hP := Hid.mk hP
      clear rl rl3
      refine' ext_two nF nN (List.Mem.head _) ?hk ?U1 ?U2 ?h1 ?h2
      case U1 => k_upd
      case U2 => k_upd
      case hk => omega
      all_goals (
        clear nF nN
        intro h' F' N'
        (repeat' (first | (k_unfold; (try dsimp only)) | (first | with_reducible (k_here; (with_reducible show wpAny _ _ (exec (Stmt.For (Expr.Name _ _) (Expr.BinOp _ _ _ _) _ [] _) _) _ _ _); first | ((rename Mark => _mk); (rename Fr _ _ _ _ => lF'); (with_unfolding_all refine' For_turns lF' ?_; k_whole)) | refine stop_here ?_) | with_reducible ((with_reducible show wpAny _ _ (call (Value.builtin _) [Value.ref _, Value.ref _]) _ _ _); refine stop_here ?_) | with_reducible ((with_reducible show wpAny _ _ (pyIter _) (fun it s₂ => LoopAtV _ _ _ _ _ (Str.ofString "k") _ _ _ it s₂) _ _); refine stop_here ?_) | with_reducible ((with_reducible show ItemsRest _ _ _ _ _ _ _ _ _ _ _ _ _ _ _); refine stop_here ?_) | with_reducible ((with_reducible show ite _ _ _); first | (refine ite_pos (by ((try simp only [decide_eq_true_eq, beq_iff_eq, bne_iff_ne, ne_eq, Bool.not_eq_true']); omega)) ?_; walk_say "m ite +") | (refine ite_neg (by ((try simp only [decide_eq_true_eq, beq_iff_eq, bne_iff_ne, ne_eq, Bool.not_eq_true']); omega)) ?_; walk_say "m ite -")) | with_reducible ((with_reducible show InvEndN _ _ _ _ _ _ _); refine stop_here ?_)) | walk1 | (dsimp only; walk1) | (leave1; walk_say "STEP leave1"; try dsimp only) | fail "no step"))
        refine Stop.of ?_
        rename News _ _ _ _ => nN
        rename Fr _ _ _ _ => nF
        exact turn_end_of (hP.out _) nF nN (mem_single (by k_mem)) (mem_single (by k_mem)) rfl ⟨rfl, rfl, trivial⟩)
  · rintro ⟨xs, ns, ep⟩ u h tk ⟨hI', hlen', hst⟩ kFr kNews
    clear nF nN hR
    dsimp only at *
    have hd0 : fs.drop (4 * ((fs.length + 3) / 4)) = [] := List.drop_eq_nil_of_le (by omega)
    rw [hd0] at hst
    have hst2 : octsM fs = ns := by rw [hst]; simp [octsM]
    have hbin : KBa.In ns := hst2 ▸ octsM_in fs hin
    have hI2 := hI'.length
    have hsz : xs.length ≤ 60 := by omega
    simp only [octLed] at kNews
    dsimp only [kstB, octPs] at kFr
    dsimp only [envOf] at kFr kNews
    clear hst hd0 hI hL hvl
    replace hst2 := Hid.mk hst2
    replace hin := Hid.mk hin
    (repeat' (first | (k_unfold; (try dsimp only)) | (first | with_reducible (k_here; (with_reducible show wpAny _ _ (exec (Stmt.For (Expr.Name _ _) (Expr.BinOp _ _ _ _) _ [] _) _) _ _ _); first | ((rename Mark => _mk); (rename Fr _ _ _ _ => lF'); (with_unfolding_all refine' For_turns lF' ?_; k_whole)) | refine stop_here ?_) | with_reducible ((with_reducible show wpAny _ _ (call (Value.builtin _) [Value.ref _, Value.ref _]) _ _ _); refine stop_here ?_) | with_reducible ((with_reducible show wpAny _ _ (pyIter _) (fun it s₂ => LoopAtV _ _ _ _ _ (Str.ofString "k") _ _ _ it s₂) _ _); refine stop_here ?_) | with_reducible ((with_reducible show ItemsRest _ _ _ _ _ _ _ _ _ _ _ _ _ _ _); refine stop_here ?_) | with_reducible ((with_reducible show ite _ _ _); first | (refine ite_pos (by ((try simp only [decide_eq_true_eq, beq_iff_eq, bne_iff_ne, ne_eq, Bool.not_eq_true']); omega)) ?_; walk_say "m ite +") | (refine ite_neg (by ((try simp only [decide_eq_true_eq, beq_iff_eq, bne_iff_ne, ne_eq, Bool.not_eq_true']); omega)) ?_; walk_say "m ite -")) | with_reducible ((with_reducible show InvEndN _ _ _ _ _ _ _); refine stop_here ?_)) | walk1 | (dsimp only; walk1) | (leave1; walk_say "STEP leave1"; try dsimp only) | fail "no step"))
    all_goals ((try k_unfold); (try dsimp only); rename Fr _ _ _ _ => nF; rw [← hst2.out] ; exact hret.out _ _ _ nF.keep)

section
variable {w : World} {loose : List Str} {mean : ExcName → Option Value} {mg mb : Str → Option Value} {A₀ A : Around} {base h₀ : Heap} {outer : List Env} {s : Shared} {Q E : Value → Shared → Prop} {L : Addr} {m : Str → Option Value} {news : List (Addr × Obj)} {env : Env}
theorem octets_use {a : Addr} {vs : List Value} {fs : List Int} (B : Below A₀ base outer h₀) (F : Fr h₀ L s.heap m) (X : (hd.heap_1 w.params).In h₀) (N : News h₀ L s.heap news) (T : Top topProg loose mean mg mb h₀)
    (hA : A.frames = some (env :: outer)) (hf : env.frame = some L) (hk : env.scope.kind = .function) (hh : A.handled = none) (hd : A.depth ≤ 900) (hu : A.units ≤ 9000)
    (hL : s.heap.IsList a vs.toArray) (hI : IntsAre vs fs) (hlen : fs.length ≤ 62) (hin : Hid (∀ f ∈ fs, 0 ≤ f ∧ f < 64))
    (h : ∀ t' h' tk', Fr h₀ L h' m → News h₀ L h' news → Q (.bytes (byteArr (octsM fs)) t') { s with heap := h', toks := tk' }) :
    wpAny (model Challenge.rw_qh0096_01.row.prog w) A (call (.ref 191) [.ref a]) Q E s :=
  wpAny_lower (octets_ok (Here.down B F X T rfl hf hk) hL hI hlen hin.out ⟨fun h' tk' t' k => h t' h' tk' (frAfter F k) (newsAfter N k)⟩) hh hA hd hu
end
end
section
open PySem.Builtin PySem.Builtin.Str PySem.Builtin.BaseException PySem.Builtin.Exceptions
/-! str(e) of an exception of an own class that has no __str__ of its own -/
section
variable {prog : Program} {w : World} {M : Model} {A : Around} {E : Value → Shared → Prop} {s : Shared} {e t0 C : Addr} {K : Frag}
/-- an exception object of the class C whose args are the tuple t0 -/
def OwnExc (h : Heap) (e C t0 : Addr) : Prop := ∃ o vs, h.get? e = some o ∧ o.cls = .ref C ∧ o.data = .fields vs ∧ vs[0]? = some (.ref t0)
theorem own_typeOf {Q : Value → Shared → Prop} (x : OwnExc s.heap e C t0) (q : Q (.ref C) s) : wpAny M A (typeOf (.ref e)) Q E s := by
  obtain ⟨o, vs, ho, hc, _⟩ := x
  unfold typeOf
  refine wpAny_bind (wpAny_loadPart ho ?_)
  rw [hc]
  exact wpAny_pure q
theorem own_special {name : Str} {r : Option Value} {Q : Option Value → Shared → Prop} (X : K.In s.heap) (x : OwnExc s.heap e C t0) (f : findIn K (.ref C) name = some r) (q : Q r s) : wpAny M A (specialOf (.ref e) name) Q E s := by
  unfold specialOf
  exact wpAny_bind (own_typeOf x (looks_findIn (M := M) X f A Q E s (fun _ _ e => e) q))
theorem own_isBase {Q : Bool → Shared → Prop} (X : K.In s.heap) {T : String} (hK : ktsIn K C T = true) (x : OwnExc s.heap e C t0) (q : Q true s) : wpAny M A (isInstance (.ref e) (.type "BaseException")) Q E s := by
  obtain ⟨nm, qn, N, bs, bm, hdct, sn, sub, ab, col, dd, k0, k1, k2, k3, k5, newId, hC, hb, _⟩ := kts_cls X hK
  unfold isInstance
  refine wpAny_bind (own_typeOf x ?_)
  obtain ⟨h, g, d, t, os⟩ := s
  refine wpAny_isSubtype_exc hC ?_
  have : (Value.ref C :: bm).contains (.type "BaseException") = true := by
    rw [List.contains_cons, hb, Bool.or_true]
  rw [this]
  exact q
theorem own_check {Q : Unit → Shared → Prop} (X : K.In s.heap) {T : String} (hK : ktsIn K C T = true) (x : OwnExc s.heap e C t0) (q : Q () s) : wpAny M A (checkBuiltinCall "BaseException.__str__" ⟨[.ref e], []⟩) Q E s := by
  have hsplit : splitId "BaseException.__str__" = some ("BaseException", "__str__") := by decide +kernel
  have hk : builtinKind "BaseException.__str__" = some .slot := by decide +kernel
  have ha : argsOk "BaseException.__str__" ⟨[.ref e], []⟩ := F.args_bexc_str _
  simp only [checkBuiltinCall, hk, hsplit]
  refine wpAny_bind (own_isBase X hK x ?_)
  simp only [Bool.not_true, Bool.false_eq_true, if_false]
  unfold argsOk at ha
  cases hsig : Manifest.signature? "BaseException.__str__" with
  | none => exact wpAny_pure q
  | some sig =>
    rw [hsig] at ha
    have h2 : Bind.checkArgs "BaseException.__str__" sig ⟨[.ref e], []⟩ = pure () := ha
    show wpAny M A (Bind.checkArgs "BaseException.__str__" sig ⟨[.ref e], []⟩) Q E s
    rw [h2]; exact wpAny_pure q
theorem own_bexcArgs {items : List Value} {Q : Value × List Value → Shared → Prop} (x : OwnExc s.heap e C t0) (ht : s.heap.TupAt t0 items) (hq : Q (.ref t0, items) s) : wpAny M A (bexcArgs (.ref e)) Q E s := by
  obtain ⟨o, vs, ho, _, hd, h0⟩ := x
  obtain ⟨ot, k, hto, _, htd⟩ := ht
  unfold bexcArgs
  refine wpAny_bind (wpAny_field ho hd h0 (wpAny_bind (wpAny_seqItems hto htd ?_)))
  have : items.toArray.toList = items := by simp
  show wpAny M A (pure (Value.ref t0, items.toArray.toList)) Q E s
  rw [this]; exact wpAny_pure hq
theorem own_bexcStr {m : Str} {tk : Tok} {Q : Fin → Shared → Prop} (x : OwnExc s.heap e C t0) (ht : s.heap.TupAt t0 [.str m tk]) (hq : Q (.done (.ret (.str m tk))) s) :
    wpAny (model prog w) A (Builtin.«BaseException.__str__» ⟨[.ref e], []⟩) Q E s := by
  unfold Builtin.«BaseException.__str__»
  repeat (first | with_reducible refine own_bexcArgs x ht ?_ | wp_step)
  exact hq
theorem own_callStr {T : String} {m : Str} {tk : Tok} {Q : Value → Shared → Prop} (X : K.In s.heap) (hK : ktsIn K C T = true) (x : OwnExc s.heap e C t0) (ht : s.heap.TupAt t0 [.str m tk]) (hq : Q (.str m tk) s) :
    wpAny (model prog w) A (call (.builtin "BaseException.__str__") [.ref e]) Q E s := by
  refine wpAny_call (codeAny_call_builtin F.excStr_ValueError.str.plain F.entry_bexc_str (own_check X hK x ?_))
  exact own_bexcStr x ht hq
theorem own_special_str {T : String} {m : Str} {tk : Tok} {Q : Option Value → Shared → Prop} (X : K.In s.heap) (hK : ktsIn K C T = true) (f : findIn K (.ref C) (Str.ofString "__str__") = some (some (.builtin "BaseException.__str__"))) (x : OwnExc s.heap e C t0) (ht : s.heap.TupAt t0 [.str m tk]) (hq : Q (some (.str m tk)) s) :
    wpAny (model prog w) A (callSpecial? (.ref e) (Str.ofString "__str__")) Q E s := by
  simp only [callSpecial?]
  refine wpAny_bind (own_special X x f ?_)
  simp only [F.excStr_ValueError.str.bind]
  exact wpAny_holding (wpAny_bind (wpAny_pure (wpAny_bind (own_callStr X hK x ht (wpAny_pure hq)))))
theorem own_strOf {T : String} {m : Str} {tk : Tok} {Q : Value → Shared → Prop} (X : K.In s.heap) (hK : ktsIn K C T = true) (f : findIn K (.ref C) (Str.ofString "__str__") = some (some (.builtin "BaseException.__str__"))) (hu : A.units < cLine) (x : OwnExc s.heap e C t0) (ht : s.heap.TupAt t0 [.str m tk]) (hq : Q (.str m tk) s) :
    wpAny (model prog w) A (Builtin.Str.strOf (.ref e)) Q E s := by
  unfold Builtin.Str.strOf
  repeat (first | with_reducible refine wpAny_cRoomFor hu ?_ | with_reducible refine own_special_str X hK f x ht ?_ | wp_step)
  exact hq
theorem own_str {T : String} {m : Str} {tk : Tok} {Q : Value → Shared → Prop} (X : K.In s.heap) (hK : ktsIn K C T = true) (f : findIn K (.ref C) (Str.ofString "__str__") = some (some (.builtin "BaseException.__str__"))) (hu : A.units + 2 < cLine) (x : OwnExc s.heap e C t0) (ht : s.heap.TupAt t0 [.str m tk]) (hq : Q (.str m tk) s) :
    wpAny (model prog w) A (call (.type "str") [.ref e]) Q E s :=
  callType_new F.called_str (by decide) (F.typeCall_str_1 _) (F.newCall_str_1 _) (fun obj => F.args_object_init_2 obj _) F.entry_str_new
    (meets_str_new (S := fun A' R s' => A'.units + 1 < cLine ∧ K.In s'.heap ∧ OwnExc s'.heap e C t0 ∧ s'.heap.TupAt t0 [.str m tk] ∧ R (.ok (.ret (.str m tk))) s')
      fun _ _ A' _ _ hq => own_strOf (A := A'.in1) hq.2.1 hK f hq.1 hq.2.2.1 hq.2.2.2.1 hq.2.2.2.2)
    ⟨(show A.units + 1 + 1 < cLine from hu), X, x, ht, typeIs_str _ _ _, hq⟩
end
section
variable {prog : Program} {w : World} {A : Around} {E : Value → Shared → Prop} {s : Shared} {e t C L : Addr} {K : Frag} {h₀ : Heap} {m : Str → Option Value} {news : List (Addr × Obj)}
theorem str_got {T : String} {msg : Str} {tk : Tok} {Q : Value → Shared → Prop} (F : Fr h₀ L s.heap m) (X : K.In h₀) (N : News h₀ L s.heap news) (G : Got news e t (.ref C) [.str msg tk]) (hK : ktsIn K C T = true) (f : findIn K (.ref C) (Str.ofString "__str__") = some (some (.builtin "BaseException.__str__"))) (hu : A.units + 2 < cLine) (hq : Q (.str msg tk) s) :
    wpAny (model prog w) A (call (.type "str") [.ref e]) Q E s := by
  obtain ⟨oe, ot, ws, nt, h1, h2, c1, d1, z, c2, d2⟩ := G
  exact own_str (X.keeps F.keep) hK f hu ⟨oe, ws, (N _ h1).1, c1, d1, z⟩ ⟨ot, nt, (N _ h2).1, c2, d2⟩ hq
end
end
section
/-- the namespaces below may have turned in their slots alone -/
def KeepsS (fs : List Addr) (h h' : Heap) : Prop := ∃ g, KtsTurn fs h g ∧ Keeps g h'
theorem KeepsS.of {fs : List Addr} {h h' : Heap} (k : Keeps h h') : KeepsS fs h h' := ⟨h, KtsTurn.refl, k⟩
abbrev framesOf (outer : List Env) : List Addr := outer.filterMap (·.frame)
/-- nothing that stood is gone -/
def Kp (h h' : Heap) : Prop := Keeps h h'
/-- these objects stand -/
def Stand (objs : List (Addr × Obj)) (h : Heap) : Prop := ∀ p ∈ objs, h.get? p.1 = some p.2
theorem Stand.keeps {objs : List (Addr × Obj)} {h h' : Heap} (S : Stand objs h) (k : Keeps h h') : Stand objs h' := fun p hp => k _ _ (S p hp)
theorem Stand.turn {objs : List (Addr × Obj)} {fs : List Addr} {h h' : Heap} (S : Stand objs h) (hoff : ∀ p ∈ objs, p.1 ∉ fs) (T : KtsTurn fs h h') : Stand objs h' := fun p hp => T.other _ _ (S p hp) (hoff p hp)
/-- what a deed does for what it is given, from any state where its objects stand -/
structure Deed (w : World) (loose : List Str) (mean : ExcName → Option Value) (mg mb : Str → Option Value) (objs : List (Addr × Obj)) (fa : Addr) (g : Value) (r : Except Str (Array UInt8)) : Prop where
  fn : ∀ h, Stand objs h → (hd.heap_1 w.params).In h → ∃ o fd, h.get? fa = some o ∧ o.data = .func fd
  go : ∀ (base : Heap) (outer : List Env) (gd : Option (List Code)) (s : Shared) (Q E : Value → Shared → Prop), Stand objs s.heap → Here w loose mean mg mb (Aat 870 8700 outer gd) base outer s.heap →
    (∀ b, r = .ok b → ∀ h' tk' t', Keeps s.heap h' → Q (.bytes b t') { s with heap := h', toks := tk' }) →
    (∀ msg, r = .error msg → ∀ e t' u h' tk', RaisedS base s.heap outer e (.ref 86) t' [.str msg u] [] h' → s.heap.UpToSlots h' → E (.ref e) { s with heap := h', toks := tk' }) →
    wpAny (model Challenge.rw_qh0096_01.row.prog w) (Aat 870 8700 outer gd) (call (.ref fa) [g]) Q E s
def toldV (r : Except Str (Array UInt8)) (t : Tok) : Value := match r with | .ok b => .bytes b t | .error m => .str m t

section
variable {w : World} {loose : List Str} {mean : ExcName → Option Value} {mg mb : Str → Option Value} {A₀ A : Around} {base h₀ : Heap} {outer : List Env} {s : Shared} {Q E : Value → Shared → Prop} {L fa : Addr} {m : Str → Option Value} {news : List (Addr × Obj)} {env : Env} {g : Value} {b : Array UInt8} {msg : Str} {objs : List (Addr × Obj)}
theorem deed_use_ok (dd : Deed w loose mean mg mb objs fa g (.ok b)) (S : Stand objs h₀) (B : Below A₀ base outer h₀) (F : Fr h₀ L s.heap m) (X : (hd.heap_1 w.params).In h₀) (N : News h₀ L s.heap news) (T : Top topProg loose mean mg mb h₀)
    (hA : A.frames = some (env :: outer)) (hf : env.frame = some L) (hk : env.scope.kind = .function) (hh : A.handled = none) (hd : A.depth ≤ 870) (hu : A.units ≤ 8700)
    (h : ∀ t' h' tk', Fr h₀ L h' m → News h₀ L h' news → Q (.bytes b t') { s with heap := h', toks := tk' }) :
    wpAny (model Challenge.rw_qh0096_01.row.prog w) A (call (.ref fa) [g]) Q E s :=
  wpAny_lower (dd.go _ _ _ _ _ _ (S.keeps F.keep) (Here.down B F X T rfl hf hk) (fun _ e h' tk' t' k => (Except.ok.inj e) ▸ h t' h' tk' (frAfter F k) (newsAfter N k)) fun _ e => nomatch e) hh hA hd hu
theorem deed_use_err (dd : Deed w loose mean mg mb objs fa g (.error msg)) (S : Stand objs h₀) (B : Below A₀ base outer h₀) (F : Fr h₀ L s.heap m) (X : (hd.heap_1 w.params).In h₀) (N : News h₀ L s.heap news) (T : Top topProg loose mean mg mb h₀)
    (hA : A.frames = some (env :: outer)) (hf : env.frame = some L) (hk : env.scope.kind = .function) (hh : A.handled = none) (hd : A.depth ≤ 870) (hu : A.units ≤ 8700)
    (he : ∀ e t' u h' tk', RaisedS base s.heap (env :: outer) e (.ref 86) t' [.str msg u] [] h' → s.heap.UpToSlots h' → E (.ref e) { s with heap := h', toks := tk' }) :
    wpAny (model Challenge.rw_qh0096_01.row.prog w) A (call (.ref fa) [g]) Q E s :=
  wpAny_lower (dd.go _ _ _ _ _ _ (S.keeps F.keep) (Here.down B F X T rfl hf hk) (fun _ e => nomatch e) fun _ e => (Except.error.inj e) ▸ he) hh hA hd hu
theorem callWith_deed {M : Model} {pos : Pos} {r : Except Str (Array UInt8)} {e : Expr} (dd : Deed w loose mean mg mb objs fa g r) (S : Stand objs h₀) (X : (hd.heap_1 w.params).In h₀)
    (h : wpAny M A (spliced (backTo pos (starEach [e] env))) (fun vs s₁ => Kp h₀ s₁.heap ∧ wpAny M A (call (.ref fa) vs) Q E s₁) E s)
    (he : starEach [e] env = (false, eval e env) :: starEach [] env) :
    wpAny M A (callWith pos (.ref fa) [] (backTo pos (starEach [e] env)) []) Q E s := by
  obtain ⟨o, fd, ho, hd⟩ := dd.fn h₀ S X
  exact callWith_def hd (wpAny_mono h (fun vs s₁ x => ⟨x.1 _ _ ho, x.2⟩) fun _ _ x => x) he
end

theorem told_b {w : World} {loose : List Str} {mean : ExcName → Option Value} {mg mb : Str → Option Value} {base : Heap} {outer : List Env} {gd : Option (List Code)} {s : Shared} {Q E : Value → Shared → Prop} {fa : Addr} {g : Value} {b : Array UInt8} {objs : List (Addr × Obj)}
    (H : Here w loose mean mg mb (Aat 860 8600 outer gd) base outer s.heap) (S : Stand objs s.heap) (dd : Deed w loose mean mg mb objs fa g (.ok b))
    (hret : Hid (∀ h' tk' t', Keeps s.heap h' → Q (.bytes b t') { s with heap := h', toks := tk' })) :
    wpAny (model Challenge.rw_qh0096_01.row.prog w) (Aat 860 8600 outer gd) (call (.ref 198) [.ref fa, g]) Q E s := by
  have X := H.X
  revert X; k_fill; intro X
  refine' enter [(Str.ofString "deed", .ref fa), (Str.ofString "given", g)] H ?k6 ?k7 ?k8 ?k9 ?kB ?_ ?c2 ?c3 ?c4 ?c5
  (k_dflt ((case k6 => k_is); (case k7 => k_is); (case k8 => k_room); (case k9 => first | exact BindsTo.of_eq rfl | exact binds_K (by k_in) rfl (by k_is) rfl rfl rfl); (case c5 => decide); (case kB => exact locs rfl); (case c2 => exact rfl); (case c3 => exact rfl); (case c4 => exact rfl)))
  clear H X
  intro L' h' tk' F' N' B' X' T'
  try dsimp only
  k_fold
  (repeat' (first | (k_unfold; (try dsimp only)) | (first | with_reducible (k_here; (with_reducible show wpAny _ _ (call (Value.type "str") [Value.ref _]) _ _ _); k_dflt (refine' str_got (T := "ValueError") (by k_asm) (by k_asm) ?_ (by assumption) (by kts_isx) (by k_is) (by units_room) ?_; assumption; k_whole)) | with_reducible ((with_reducible show wpAny _ _ (call (Value.ref _) _ _) _ _ _); (k_here; first | k_dflt (refine' deed_use_ok (by assumption) (by assumption) (by k_asm) (by k_asm) (by k_asm) (by k_asm) (by k_asm) (by exact rfl) (by exact rfl) (by exact rfl) (by exact rfl) (by exact Nat.le_of_ble_eq_true rfl) (by exact Nat.le_of_ble_eq_true rfl) ?_; k_whole; intro t9 h9 tk9 F9 N9; (try dsimp only); (try k_sweep)) | k_dflt (refine' deed_use_err (by assumption) (by assumption) (by k_asm) (by k_asm) (by k_asm) (by k_asm) (by k_asm) (by exact rfl) (by exact rfl) (by exact rfl) (by exact rfl) (by exact Nat.le_of_ble_eq_true rfl) (by exact Nat.le_of_ble_eq_true rfl) ?_; k_whole; intro e9 t9 u9 h9 tk9 R9 U9; (try dsimp only)))) | with_reducible ((with_reducible show wpAny _ _ (callWith _ (Value.ref _) _ _ _) _ _ _); (k_here; k_dflt (refine' callWith_deed (by assumption) (by assumption) (by k_asm) ?_ (by exact rfl)))) | with_reducible ((with_reducible show ite _ _ _); first | (refine ite_pos (by ((try simp only [decide_eq_true_eq, beq_iff_eq, bne_iff_ne, ne_eq, Bool.not_eq_true']); omega)) ?_; walk_say "m ite +") | (refine ite_neg (by ((try simp only [decide_eq_true_eq, beq_iff_eq, bne_iff_ne, ne_eq, Bool.not_eq_true']); omega)) ?_; walk_say "m ite -")) | with_reducible ((with_reducible show InvEndN _ _ _ _ _ _ _); refine stop_here ?_)) | walk1 | (dsimp only; walk1) | (leave1; walk_say "STEP leave1"; try dsimp only) | fail "no step"))
  all_goals (rename Fr _ _ _ _ => nF; first | exact hret.out _ _ _ nF.keep | exact nF.keep)

theorem told_ok {w : World} {loose : List Str} {mean : ExcName → Option Value} {mg mb : Str → Option Value} {base : Heap} {outer : List Env} {gd : Option (List Code)} {s : Shared} {Q E : Value → Shared → Prop} {fa : Addr} {g : Value} {r : Except Str (Array UInt8)} {objs : List (Addr × Obj)}
    (H : Here w loose mean mg mb (Aat 860 8600 outer gd) base outer s.heap) (XB : (hd.heap_1 w.params).In base) (TB : Top topProg loose mean mg mb base) (D : KtsDicts (framesOf outer) s.heap)
    (S : Stand objs s.heap) (dd : Deed w loose mean mg mb objs fa g r)
    (hret : Hid (∀ h' tk' t', KeepsS (framesOf outer) s.heap h' → Q (toldV r t') { s with heap := h', toks := tk' })) :
    wpAny (model Challenge.rw_qh0096_01.row.prog w) (Aat 860 8600 outer gd) (call (.ref 198) [.ref fa, g]) Q E s := by
  cases r with
  | ok b => exact told_b H S dd ⟨fun h' tk' t' k => hret.out h' tk' t' (KeepsS.of k)⟩
  | error msg =>
    have X := H.X
    revert X; k_fill; intro X
    refine' enter [(Str.ofString "deed", .ref fa), (Str.ofString "given", g)] H ?k6 ?k7 ?k8 ?k9 ?kB ?_ ?c2 ?c3 ?c4 ?c5
    (k_dflt ((case k6 => k_is); (case k7 => k_is); (case k8 => k_room); (case k9 => first | exact BindsTo.of_eq rfl | exact binds_K (by k_in) rfl (by k_is) rfl rfl rfl); (case c5 => decide); (case kB => exact locs rfl); (case c2 => exact rfl); (case c3 => exact rfl); (case c4 => exact rfl)))
    clear H X
    intro L' h' tk' F' N' B' X' T'
    try dsimp only
    k_fold
    (repeat' (first | (k_unfold; (try dsimp only)) | (first | with_reducible (k_here; (with_reducible show wpAny _ _ (call (Value.type "str") [Value.ref _]) _ _ _); k_dflt (refine' str_got (T := "ValueError") (by k_asm) (by k_asm) ?_ (by assumption) (by kts_isx) (by k_is) (by units_room) ?_; assumption; k_whole)) | with_reducible ((with_reducible show wpAny _ _ (call (Value.ref _) _ _) _ _ _); (k_here; first | k_dflt (refine' deed_use_ok (by assumption) (by assumption) (by k_asm) (by k_asm) (by k_asm) (by k_asm) (by k_asm) (by exact rfl) (by exact rfl) (by exact rfl) (by exact rfl) (by exact Nat.le_of_ble_eq_true rfl) (by exact Nat.le_of_ble_eq_true rfl) ?_; k_whole; intro t9 h9 tk9 F9 N9; (try dsimp only); (try k_sweep)) | k_dflt (refine' deed_use_err (by assumption) (by assumption) (by k_asm) (by k_asm) (by k_asm) (by k_asm) (by k_asm) (by exact rfl) (by exact rfl) (by exact rfl) (by exact rfl) (by exact Nat.le_of_ble_eq_true rfl) (by exact Nat.le_of_ble_eq_true rfl) ?_; k_whole; intro e9 t9 u9 h9 tk9 R9 U9; (try dsimp only)))) | with_reducible ((with_reducible show wpAny _ _ (callWith _ (Value.ref _) _ _ _) _ _ _); (k_here; k_dflt (refine' callWith_deed (by assumption) (by assumption) (by k_asm) ?_ (by exact rfl)))) | with_reducible ((with_reducible show ite _ _ _); first | (refine ite_pos (by ((try simp only [decide_eq_true_eq, beq_iff_eq, bne_iff_ne, ne_eq, Bool.not_eq_true']); omega)) ?_; walk_say "m ite +") | (refine ite_neg (by ((try simp only [decide_eq_true_eq, beq_iff_eq, bne_iff_ne, ne_eq, Bool.not_eq_true']); omega)) ?_; walk_say "m ite -")) | with_reducible ((with_reducible show InvEndN _ _ _ _ _ _ _); refine stop_here ?_)) | walk1 | (dsimp only; walk1) | (leave1; walk_say "STEP leave1"; try dsimp only) | fail "no step"))
    all_goals (rename Fr _ _ _ _ => nF; first | exact nF.keep | (rename KtsTurn _ _ _ => nT; exact hret.out _ _ _ ⟨_, nT, nF.keep⟩))

/-- a frame whose callee caught what was raised: the frames below have turned -/
theorem turn_frame {w : World} {loose : List Str} {mean : ExcName → Option Value} {mg mb : Str → Option Value} {A₀ : Around} {base h₀ g₀ h h' : Heap} {outer : List Env} {L : Addr} {m : Str → Option Value} {news : List (Addr × Obj)}
    (B : Below A₀ base outer h₀) (F : Fr h₀ L h m) (N : News h₀ L h news) (XB : (hd.heap_1 w.params).In base) (TB : Top topProg loose mean mg mb base) (D : KtsDicts (framesOf outer) h₀) (T0 : KtsTurn (framesOf outer) g₀ h₀)
    (k : KeepsS (L :: framesOf outer) h h') :
    ∃ h₁, KtsTurn (framesOf outer) h₀ h₁ ∧ KtsTurn (framesOf outer) g₀ h₁ ∧ Fr h₁ L h' m ∧ News h₁ L h' news ∧ Below A₀ base outer h₁ ∧ (hd.heap_1 w.params).In h₁ ∧ Top topProg loose mean mg mb h₁ ∧ KtsDicts (framesOf outer) h₁ := by
  obtain ⟨g, T, kg⟩ := k
  have hL0 : h₀.get? L = none := kts_self F
  have up : ∀ b o, h₀.get? b = some o → b ∉ framesOf outer → h'.get? b = some o := fun b o e nm => kg _ _ (T.other b o (F.keep b o e) fun hm => by
    rcases List.mem_cons.mp hm with z | z
    · rw [z, hL0] at e; cases e
    · exact nm z)
  obtain ⟨T₁, S₁⟩ := kts_turn_at (h := h') (fs := framesOf outer) (g := h₀) (fun b hb => by
      obtain ⟨_, o, ho, _⟩ := B.frames.mem hb
      exact ⟨o, ho⟩) up (fun b o e hm => by
      obtain ⟨sl, hs⟩ := T.frame b o (F.keep b o e) (.tail _ hm)
      exact ⟨sl, kg _ _ hs⟩)
  have B₁ : Below A₀ base outer (ktsHeap h' (framesOf outer) h₀) := ⟨B.stack, fun b o e => T₁.other b o (B.stays b o e) (fun hm => by
    rw [(B.frames.mem hm).1] at e; cases e), B.frames.of_keeps fun b o e _ => by
      obtain ⟨sl, hs⟩ := T₁.up e
      exact ⟨_, hs, rfl⟩⟩
  obtain ⟨oL, es, ep, hL, hLd, hLk, hLf⟩ := F.ns
  obtain ⟨sl, hs⟩ := T.frame L oL hL (.head _)
  refine ⟨_, T₁, T0.trans T₁, ⟨⟨_, es, ep, kg _ _ hs, hLd, hLk, hLf⟩, S₁, by rw [T₁.size]; exact F.above⟩, fun p hp => ⟨kg _ _ (T.other _ _ (N p hp).1 fun hm => ?_), (N p hp).2.1, T₁.none_ _ (N p hp).2.2⟩, B₁, XB.keeps B₁.stays, TB.keeps B₁.stays, D.turn T₁⟩
  rcases List.mem_cons.mp hm with z | z
  · exact (N p hp).2.1 z
  · obtain ⟨_, o, ho, _⟩ := B.frames.mem z
    rw [(N p hp).2.2] at ho; cases ho
theorem frame_dicts {h₀ h : Heap} {L : Addr} {m : Str → Option Value} {outer : List Env} (F : Fr h₀ L h m) (D : KtsDicts (framesOf outer) h₀) : KtsDicts (L :: framesOf outer) h := fun b hb => by
  rcases List.mem_cons.mp hb with rfl | hb
  · obtain ⟨oL, es, ep, hL, hLd, _⟩ := F.ns
    exact ⟨oL, es, ep, hL, hLd⟩
  · obtain ⟨o, es, n, ho, hd⟩ := D b hb
    exact ⟨o, es, n, F.keep _ _ ho, hd⟩
/-- the same in the law's own frame: nothing stands below -/
theorem turn_frame0 {h₀ h h' : Heap} {L : Addr} {m : Str → Option Value} {news : List (Addr × Obj)} (F : Fr h₀ L h m) (N : News h₀ L h news) (k : KeepsS [L] h h') : Fr h₀ L h' m ∧ News h₀ L h' news := by
  obtain ⟨g, T, kg⟩ := k
  have hL0 : h₀.get? L = none := kts_self F
  obtain ⟨oL, es, ep, hL, hLd, hLk, hLf⟩ := F.ns
  obtain ⟨sl, hs⟩ := T.frame L oL hL (.head _)
  refine ⟨⟨⟨_, es, ep, kg _ _ hs, hLd, hLk, hLf⟩, fun b o e => kg _ _ (T.other b o (F.keep b o e) fun hm => ?_), F.above⟩, fun p hp => ⟨kg _ _ (T.other _ _ (N p hp).1 fun hm => ?_), (N p hp).2⟩⟩
  · rw [List.mem_singleton.mp hm, hL0] at e; cases e
  · exact (N p hp).2.1 (List.mem_singleton.mp hm)

section
variable {w : World} {loose : List Str} {mean : ExcName → Option Value} {mg mb : Str → Option Value} {A₀ A : Around} {base h₀ g₀ : Heap} {outer : List Env} {s : Shared} {Q E : Value → Shared → Prop} {L fa : Addr} {m : Str → Option Value} {news : List (Addr × Obj)} {env : Env} {g : Value} {r : Except Str (Array UInt8)} {objs : List (Addr × Obj)}
theorem told_use (dd : Deed w loose mean mg mb objs fa g r) (B : Below A₀ base outer h₀) (hoff : ∀ p ∈ objs, p.1 ∉ framesOf outer) (XB : (hd.heap_1 w.params).In base) (TB : Top topProg loose mean mg mb base) (S : Stand objs h₀) (D : KtsDicts (framesOf outer) h₀) (T0 : KtsTurn (framesOf outer) g₀ h₀)
    (F : Fr h₀ L s.heap m) (X : (hd.heap_1 w.params).In h₀) (N : News h₀ L s.heap news) (T : Top topProg loose mean mg mb h₀)
    (hA : A.frames = some (env :: outer)) (hf : env.frame = some L) (hk : env.scope.kind = .function) (hh : A.handled = none) (hd : A.depth ≤ 860) (hu : A.units ≤ 8600)
    (h : ∀ t' h' tk' h₁, KtsTurn (framesOf outer) g₀ h₁ → Fr h₁ L h' m → News h₁ L h' news → Below A₀ base outer h₁ → (Mine.hd.heap_1 w.params).In h₁ → Top topProg loose mean mg mb h₁ → KtsDicts (framesOf outer) h₁ → Stand objs h₁ → Q (toldV r t') { s with heap := h', toks := tk' }) :
    wpAny (model Challenge.rw_qh0096_01.row.prog w) A (call (.ref 198) [.ref fa, g]) Q E s := by
  have hfs : framesOf (env :: outer) = L :: framesOf outer := by simp [framesOf, List.filterMap_cons, hf]
  refine wpAny_lower (told_ok (Here.down B F X T rfl hf hk) XB TB (hfs ▸ frame_dicts F D) (S.keeps F.keep) dd ⟨fun h' tk' t' k => ?_⟩) hh hA hd hu
  obtain ⟨h₁, T1, T2, F1, N1, B1, X1, P1, D1⟩ := turn_frame B F N XB TB D T0 (hfs ▸ k)
  exact h t' h' tk' h₁ T2 F1 N1 B1 X1 P1 D1 (S.turn hoff T1)
end
end
section
/-- entering a def whose names are captured -/
theorem enterC {prog : Program} {w : World} {loose : List Str} {mean : ExcName → Option Value} {mg mb : Str → Option Value} {A : Around} {base : Heap} {outer : List Env} {s : Shared} {Q E : Value → Shared → Prop}
    {name qual : Str} {params : Arguments} {body : List Stmt} {scope : Scope} {dV kV doc pm cdv ct oc : Value} {an od : Option Addr} {osl : Array (Option Value)} {f : Addr} {args : List Value} {kw : List (Str × Value)} (binds : List (Str × Value))
    (H : Here w loose mean mg mb A base outer s.heap)
    (ho : (hd.heap_1 w.params).lookup f = some ⟨oc, od, .func (fnOf name qual params body scope dV kV doc pm an cdv ct), osl⟩) (hcd : codeIn (hd.heap_1 w.params) cdv qual = true) (hroom : A.depth < recursionLimit)
    (hbind : BindsTo s (fnOf name qual params body scope dV kV doc pm an cdv ct) ⟨args, kw⟩ binds)
    (hkind : ∀ n, ∀ x ∈ binds, scope.names.lookup x.1 = some .local ∨ (scope.names.lookup x.1 = some .cell ∧ ((cellsFrom n scope.names []).lookup x.1).isSome = true))
    (hnd : ((cellsFrom 0 scope.names []).map (·.1)).Nodup)
    (h : ∀ L' h₁ tk cells, Fr s.heap L' h₁ (bindL (envOfC qual scope L' f cdv).kindOf binds fun _ => none) → News s.heap L' h₁ cells →
      CellsAre (bindC (envOfC qual scope L' f cdv).kindOf binds fun _ => none) (cellsFrom (L' + 1) scope.names []) cells → Below A base outer s.heap → (hd.heap_1 w.params).In s.heap → Top topProg loose mean mg mb s.heap →
      wpAny (model prog w) (A.deeper (envOfC qual scope L' f cdv)) (execs body (envOfC qual scope L' f cdv))
        (fun fl s' => Q (match fl with | .ret v => v | _ => .none) s')
        (fun e s' => wpAny (model prog w) (A.deeper (envOfC qual scope L' f cdv)) (leaving (envOfC qual scope L' f cdv) e) (fun _ s'' => E e s'') (fun e' s'' => E e' s'') s')
        { s with heap := h₁, toks := tk })
    (hco : scope.isCoroutine = false) (hgen : scope.isGenerator = false) (hk : scope.kind = .function) : wpAny (model prog w) A (call (.ref f) args kw) Q E s := by
  refine wpAny_call (codeAny_call_function (fd := fnOf name qual params body scope dV kV doc pm an cdv ct) hroom (H.X _ _ ho) rfl hco hgen rfl (codeRec_of H.X hcd) (hbind _ _ _ _ ?_))
  refine wpAny_newFunctionEnv_cells hk (hkind _) fun env' he s' x => ?_
  subst he
  refine ⟨H.T.nolimit.keeps x.toInCall.keep, codeAny_func ?_⟩
  obtain ⟨h₁, tk, rfl, _⟩ := x.done
  have hk₁ := x.toInCall.keep
  obtain ⟨cells, NC, Y⟩ := Cl.news (h₀ := s.heap) (Nat.le_refl _) fun n c hm => ⟨x.cell n c (lookup_of_mem_nodup (cellsFrom_names scope.names 0 (s.heap.objs.size + 1) [] [] rfl ▸ hnd) hm), x.above n c hm⟩
  exact h s.heap.objs.size h₁ tk cells ⟨x.toInCall.ns, hk₁, Nat.le_refl _⟩ NC Y H.B H.X H.T
end
section
def shownP (p q f : Int) : Bool := decide (f < 62 ∨ f = p ∨ f = q)
def shownF (p q f : Int) : Int := if f = q then 63 else if f = p then 62 else f
def shownM (p q : Int) (fs : List Int) : List Int := (fs.filter (shownP p q)).map (shownF p q)
def dueE (sh : List Int) : Except Str (Array UInt8) :=
  if sh.length % 4 = 1 then .error (Str.ofString "Invalid base64-encoded string: number of data characters (" ++ Str.ofString (toString (sh.length : Int)) ++ Str.ofString ") cannot be 1 more than a multiple of 4") else .ok (byteArr (octsM sh))
def bareE (sh : List Int) : Except Str (Array UInt8) := if sh.length % 4 < 2 then dueE sh else .error (Str.ofString "Incorrect padding")
def onlyE (n : Nat) (sh : List Int) (r : Except Str (Array UInt8)) : Except Str (Array UInt8) := if sh.length < n then .error (Str.ofString "Only base64 data is allowed") else r
def padS (k : Nat) : Str := ⟨(List.replicate k 61).toArray⟩
def padK (r : Nat) : Nat := if r = 2 then 2 else if r = 3 then 1 else 0
def fillB (x : Str) (sh : List Int) : Array UInt8 := asciiOf (x ++ padS (padK (sh.length % 4)))
/-- a deed on bytes, whatever their token -/
structure DeedB (w : World) (loose : List Str) (mean : ExcName → Option Value) (mg mb : Str → Option Value) (objs : List (Addr × Obj)) (fa : Addr) (b : Array UInt8) (r : Except Str (Array UInt8)) : Prop where
  out : ∀ t, Deed w loose mean mg mb objs fa (.bytes b t) r
theorem shown_in {p q : Int} {fs : List Int} (h : ∀ f ∈ fs, 0 ≤ f ∧ f < 64) : ∀ f ∈ shownM p q fs, 0 ≤ f ∧ f < 64 := by
  intro y hy
  obtain ⟨f, hf, rfl⟩ := List.mem_map.mp hy
  have := h f (List.mem_filter.mp hf).1
  unfold shownF
  (repeat' split) <;> omega
theorem shown_len {p q : Int} {fs : List Int} : (shownM p q fs).length ≤ fs.length := by
  simp only [shownM, List.length_map]; exact List.length_filter_le _ _
theorem newsPlain {h₀ h : Heap} {L D : Addr} {m : Str → Option Value} {news : List (Addr × Obj)} {items : Array Value} (F : Fr h₀ L h m) (N : News h₀ L h news) (hD : h₀.get? D = none) (x : NewPlain h news D items) : ∃ n, News h₀ L h ((D, W.listOf items n) :: news) := by
  have hne := x.ne_locals F
  obtain ⟨⟨n, e⟩, _⟩ := x
  refine ⟨n, fun p hp => ?_⟩
  rcases List.mem_cons.mp hp with rfl | hp
  · exact ⟨e, hne, hD⟩
  · exact N p hp
section
variable {M : Model} {A : Around} {E : Value → Shared → Prop} {s : Shared} {h₀ g : Heap} {L : Addr} {m : Str → Option Value} {news : List (Addr × Obj)} {vs : List Value} {Q : Value → Shared → Prop}
theorem newTuple_E (F : Fr h₀ L s.heap m) (N : News h₀ L s.heap news) (I : InElt g s.heap)
    (h : ∀ D h', Fr h₀ L h' m → News h₀ L h' ((D, { cls := .type "tuple", data := .seq vs.toArray }) :: news) → InElt g h' → (∀ p ∈ news, p.1 < D) → Q (.ref D) { s with heap := h' }) (hsz : vs.length ≤ sizeLine) :
    wpAny M A (newTuple vs) Q E s := wpAny_newObj_type (h _ _ (F.push _) (N.push F _) (fun b o e => Heap.get?_push_of_some _ (I b o e)) fun p hp => Heap.lt_size (N p hp).1) (by show vs.toArray.size ≤ sizeLine; rw [List.size_toArray]; exact hsz)
end
theorem pad_chars {x : Str} {k : Nat} (h : ∀ c ∈ x.cps.toList, c < 128) : ∀ c ∈ (x ++ padS k).cps.toList, c < 128 := by
  intro c hc
  have e : (x ++ padS k).cps.toList = x.cps.toList ++ List.replicate k 61 := by
    show (x.cps ++ (padS k).cps).toList = _
    simp [padS]
  rw [e] at hc
  rcases List.mem_append.mp hc with z | z
  · exact h c z
  · rw [List.eq_of_mem_replicate z]; decide
theorem pad_size {x : Str} {k : Nat} (h : x.length ≤ 60) (hk : k ≤ 2) : (x ++ padS k).cps.size ≤ 16777216 := by
  have e : (x ++ padS k).cps.size = x.cps.size + k := by
    show (x.cps ++ (padS k).cps).size = _
    simp [padS]
  rw [e]
  have : x.cps.size ≤ 60 := h
  omega
theorem standList {objs : List (Addr × Obj)} {h : Heap} {a : Addr} {vs : List Value} {n : Nat} (S : Stand objs h) (hm : (a, W.listOf vs.toArray n) ∈ objs) : h.IsList a vs.toArray := ⟨_, S _ hm, rfl, n, rfl⟩
theorem onlyE_lt {n : Nat} {sh : List Int} {r : Except Str (Array UInt8)} (h : (sh.length : Int) < (n : Int)) : onlyE n sh r = .error (Str.ofString "Only base64 data is allowed") := if_pos (by omega)
theorem onlyE_ge {n : Nat} {sh : List Int} {r : Except Str (Array UInt8)} (h : ¬ (sh.length : Int) < (n : Int)) : onlyE n sh r = r := if_neg (by omega)
theorem told_words {r : Except Str (Array UInt8)} {t : Tok} : toldV r t = match r with | .ok b => .bytes b t | .error m => .str m t := rfl
abbrev frMap {h₀ h : Heap} {L : Addr} {m : Str → Option Value} (_ : Fr h₀ L h m) : Str → Option Value := m
theorem read_ok {w : World} {loose : List Str} {mean : ExcName → Option Value} {mg mb : Str → Option Value} {base : Heap} {outer : List Env} {gd : Option (List Code)} {s : Shared} {Q E : Value → Shared → Prop} {x : Str} {t tp tq : Tok} {a la sa : Addr} {p q : Int} {vs : List Value} {fs : List Int} {n : Nat} {objs : List (Addr × Obj)}
    (H : Here w loose mean mg mb (Aat 850 8500 outer gd) base outer s.heap) (XB : (hd.heap_1 w.params).In base) (TB : Top topProg loose mean mg mb base) (D : KtsDicts (framesOf outer) s.heap)
    (S : Stand objs s.heap) (hoff : ∀ p ∈ objs, p.1 ∉ framesOf outer) (hL : (a, W.listOf vs.toArray n) ∈ objs) (hI : IntsAre vs fs) (hlen : fs.length ≤ 60) (hin : ∀ f ∈ fs, 0 ≤ f ∧ f < 64)
    (hx : Hid (∀ c ∈ x.cps.toList, c < 128)) (hx60 : x.length ≤ 60)
    (dl : Deed w loose mean mg mb objs la (.str x t) (bareE (shownM p q fs))) (df : DeedB w loose mean mg mb objs la (fillB x (shownM p q fs)) (dueE (shownM p q fs)))
    (ds : Deed w loose mean mg mb objs sa (.str x t) (onlyE fs.length (shownM p q fs) (bareE (shownM p q fs)))) (dg : DeedB w loose mean mg mb objs sa (fillB x (shownM p q fs)) (onlyE fs.length (shownM p q fs) (dueE (shownM p q fs))))
    (hret : Hid (∀ h' tk', KeepsS (framesOf outer) s.heap h' → Q (.bool true) { s with heap := h', toks := tk' })) :
    wpAny (model Challenge.rw_qh0096_01.row.prog w) (Aat 850 8500 outer gd) (call (.ref 203) [.str x t, .ref a, .int p tp, .int q tq, .ref la, .ref sa]) Q E s := by
  have X := H.X
  revert X; k_fill; intro X
  refine' enterC [(Str.ofString "listing", .str x t), (Str.ofString "figures", .ref a), (Str.ofString "p", .int p tp), (Str.ofString "q", .int q tq), (Str.ofString "loose", .ref la), (Str.ofString "strict", .ref sa)] H ?k6 ?k7 ?k8 ?k9 ?kB ?kD ?_ ?c2 ?c3 ?c4
  k_dflt ((case k6 => k_is); (case k7 => k_is); (case k8 => k_room); (case k9 => first | exact BindsTo.of_eq rfl | exact binds_K (by k_in) rfl (by k_is) rfl rfl rfl); (case kB => (intro n9 x9 hx9; simp only [List.mem_cons, List.not_mem_nil, or_false] at hx9; rcases hx9 with rfl | rfl | rfl | rfl | rfl | rfl <;> first | exact .inl rfl | exact .inr ⟨rfl, rfl⟩)); (case kD => decide +kernel); (case c2 => exact rfl); (case c3 => exact rfl); (case c4 => exact rfl))
  clear H X
  intro L' h' tk' cells' F' N' Y' B' X' T'
  k_cells Y'
  try dsimp only
  try k_unmd
  k_fold
  have hLs : s.heap.IsList a vs.toArray := ⟨_, S _ hL, rfl, n, rfl⟩
  have hvl := hI.length
  have hT0 : KtsTurn (framesOf outer) s.heap s.heap := KtsTurn.refl
  (repeat' (first | (k_unfold; (try dsimp only)) | (first | with_reducible ((with_reducible show wpAny _ _ (call (Value.ref _) _ _) _ _ _); (k_here; ( ((with_reducible show wpAny _ _ (call (Value.ref 198) _ _) _ _ _); k_dflt (refine' told_use (by first | assumption | exact DeedB.out (by assumption) _) (by k_asm) (by assumption) (by assumption) (by assumption) (by assumption) (by assumption) (by assumption) (by k_asm) (by k_asm) (by k_asm) (by k_asm) (by exact rfl) (by exact rfl) (by exact rfl) (by exact rfl) (by exact Nat.le_of_ble_eq_true rfl) (by exact Nat.le_of_ble_eq_true rfl) ?_; k_whole; intro t9 h9 tk9 g9 T9 F9 N9 B9 X9 P9 D9 S9; (have L9 := standList S9 (by assumption)); (try k_lift B9); (try dsimp only [toldV]); (try k_sweep)))))) | with_reducible ((with_reducible show wpAny _ _ (call (Value.builtin "str.encode") _ _) _ _ _); (refine encode_call (by exact pad_chars (Hid.out (by assumption))) (by exact pad_size (by assumption) (by decide)) ?_; intro t9 k9; (try dsimp only))) | ((with_reducible show wpAny _ _ (call (Value.builtin "str.encode") _ _) _ _ _); (refine encode_call (by exact pad_chars (Hid.out (by assumption))) (by exact pad_size (by assumption) (by decide)) ?_; intro t9 k9; (try dsimp only))) | with_reducible ((with_reducible show wpAny _ _ (getMethod (Value.str _ _) _ _) _ _ _); (k_here; with_reducible refine getm_encode ?_)) | with_reducible ((with_reducible show ite _ _ _); first | (refine ite_neg (by (simp only [bne_self_eq_false, Bool.false_eq_true, not_false_eq_true]; done)) ?_; walk_say "m same -") | (refine ite_pos (by (simp only [beq_self_eq_true]; done)) ?_; walk_say "m same +")) | with_reducible ((with_reducible show wpAny _ _ (newTuple _) _ _ _); (k_here; (rename InElt _ _ => kE'); k_dflt (refine' newTuple_E (by k_asm) (by k_asm) kE' ?_ (by size_fits)); intro D' h' F' N' cE' l1; (try k_lt l1))) | with_reducible ((with_reducible show wpAny _ _ (call (Value.ref _) _ _) _ _ _); (k_here; ( ((with_reducible show wpAny _ _ (call (Value.ref 191) _ _) _ _ _); k_dflt (refine' octets_use (by k_asm) (by k_asm) (by k_asm) (by k_asm) (by k_asm) (by exact rfl) (by exact rfl) (by exact rfl) (by exact rfl) (by exact Nat.le_of_ble_eq_true rfl) (by exact Nat.le_of_ble_eq_true rfl) (by exact News.isList (by k_asm) (by k_mem)) (by assumption) (by assumption) (by assumption) ?_; k_whole; intro t9 h9 tk9 F9 N9; (try dsimp only); (try k_sweep)))))) | with_reducible ((with_reducible show _ ∧ PySem.Keeps _ _); refine stop_here ?_) | with_reducible ((with_reducible show CompPack _); refine stop_here ?_) | with_reducible ((with_reducible show wpAny _ _ (binaryOp Operator.Mult (Value.str _ _) (Value.int _ _)) _ _ _); refine stop_here ?_) | with_reducible ((with_reducible show wpAny _ _ (exec (Stmt.Assign (List.cons _ _) (Expr.ListComp _ _ _ _) _) _) _ _ _); refine stop_here ?_) | with_reducible ((with_reducible show ite _ _ _); first | (refine ite_pos (by ((try simp only [decide_eq_true_eq, beq_iff_eq, bne_iff_ne, ne_eq, Bool.not_eq_true']); omega)) ?_; walk_say "m ite +") | (refine ite_neg (by ((try simp only [decide_eq_true_eq, beq_iff_eq, bne_iff_ne, ne_eq, Bool.not_eq_true']); omega)) ?_; walk_say "m ite -")) | with_reducible ((with_reducible show InvEndN _ _ _ _ _ _ _); refine stop_here ?_)) | walk1 | (dsimp only; walk1) | (leave1; walk_say "STEP leave1"; try dsimp only) | fail "no step"))
  refine Stop.of ?_
  rename News _ _ _ _ => nN
  rename Fr _ _ _ _ => nF
  refine' Assign_ListComp_DCnk (h₀ := s.heap) (m := frMap nF) (K := .int) (pz := shownP p q) (d := fun f => PyData.int (shownF p q f)) (by with_unfolding_all rfl) (by with_unfolding_all rfl) (by decide) (by with_unfolding_all rfl) (by with_unfolding_all rfl) (by decide) (by with_unfolding_all rfl) (by decide) (by with_unfolding_all rfl) (by with_unfolding_all rfl) (by with_unfolding_all rfl) ?_ (by intro _; with_unfolding_all rfl)
  dsimp only [frMap]
  refine wpAny_compPack ?_
  (repeat' (first | (k_unfold; (try dsimp only)) | (first | with_reducible ((with_reducible show wpAny _ _ (call (Value.ref _) _ _) _ _ _); (k_here; ( ((with_reducible show wpAny _ _ (call (Value.ref 198) _ _) _ _ _); k_dflt (refine' told_use (by first | assumption | exact DeedB.out (by assumption) _) (by k_asm) (by assumption) (by assumption) (by assumption) (by assumption) (by assumption) (by assumption) (by k_asm) (by k_asm) (by k_asm) (by k_asm) (by exact rfl) (by exact rfl) (by exact rfl) (by exact rfl) (by exact Nat.le_of_ble_eq_true rfl) (by exact Nat.le_of_ble_eq_true rfl) ?_; k_whole; intro t9 h9 tk9 g9 T9 F9 N9 B9 X9 P9 D9 S9; (have L9 := standList S9 (by assumption)); (try k_lift B9); (try dsimp only [toldV]); (try k_sweep)))))) | with_reducible ((with_reducible show wpAny _ _ (call (Value.builtin "str.encode") _ _) _ _ _); (refine encode_call (by exact pad_chars (Hid.out (by assumption))) (by exact pad_size (by assumption) (by decide)) ?_; intro t9 k9; (try dsimp only))) | ((with_reducible show wpAny _ _ (call (Value.builtin "str.encode") _ _) _ _ _); (refine encode_call (by exact pad_chars (Hid.out (by assumption))) (by exact pad_size (by assumption) (by decide)) ?_; intro t9 k9; (try dsimp only))) | with_reducible ((with_reducible show wpAny _ _ (getMethod (Value.str _ _) _ _) _ _ _); (k_here; with_reducible refine getm_encode ?_)) | with_reducible ((with_reducible show ite _ _ _); first | (refine ite_neg (by (simp only [bne_self_eq_false, Bool.false_eq_true, not_false_eq_true]; done)) ?_; walk_say "m same -") | (refine ite_pos (by (simp only [beq_self_eq_true]; done)) ?_; walk_say "m same +")) | with_reducible ((with_reducible show wpAny _ _ (newTuple _) _ _ _); (k_here; (rename InElt _ _ => kE'); k_dflt (refine' newTuple_E (by k_asm) (by k_asm) kE' ?_ (by size_fits)); intro D' h' F' N' cE' l1; (try k_lt l1))) | with_reducible ((with_reducible show wpAny _ _ (call (Value.ref _) _ _) _ _ _); (k_here; ( ((with_reducible show wpAny _ _ (call (Value.ref 191) _ _) _ _ _); k_dflt (refine' octets_use (by k_asm) (by k_asm) (by k_asm) (by k_asm) (by k_asm) (by exact rfl) (by exact rfl) (by exact rfl) (by exact rfl) (by exact Nat.le_of_ble_eq_true rfl) (by exact Nat.le_of_ble_eq_true rfl) (by exact News.isList (by k_asm) (by k_mem)) (by assumption) (by assumption) (by assumption) ?_; k_whole; intro t9 h9 tk9 F9 N9; (try dsimp only); (try k_sweep)))))) | with_reducible ((with_reducible show _ ∧ PySem.Keeps _ _); refine stop_here ?_) | with_reducible ((with_reducible show CompPack _); refine stop_here ?_) | with_reducible ((with_reducible show wpAny _ _ (binaryOp Operator.Mult (Value.str _ _) (Value.int _ _)) _ _ _); refine stop_here ?_) | with_reducible ((with_reducible show wpAny _ _ (exec (Stmt.Assign (List.cons _ _) (Expr.ListComp _ _ _ _) _) _) _ _ _); refine stop_here ?_) | with_reducible ((with_reducible show ite _ _ _); first | (refine ite_pos (by ((try simp only [decide_eq_true_eq, beq_iff_eq, bne_iff_ne, ne_eq, Bool.not_eq_true']); omega)) ?_; walk_say "m ite +") | (refine ite_neg (by ((try simp only [decide_eq_true_eq, beq_iff_eq, bne_iff_ne, ne_eq, Bool.not_eq_true']); omega)) ?_; walk_say "m ite -")) | with_reducible ((with_reducible show InvEndN _ _ _ _ _ _ _); refine stop_here ?_)) | walk1 | (dsimp only; walk1) | (leave1; walk_say "STEP leave1"; try dsimp only) | fail "no step"))
  refine Stop.of (CompPack.intro ?_)
  refine' ⟨_, a, vs, fs, rfl, hLs.at fun o e => nF.keep a o e, hI.areOf, ?_, nF, nN, ?_, ?_, ?_⟩
  · rw [sizeLine_eq]; omega
  · intro C f v s₂ m₂ E' hC hmem hK hn hm hk
    obtain ⟨tf, rfl⟩ := ItemKind.int_is hK
    (repeat' (first | (k_unfold; (try dsimp only)) | (first | with_reducible ((with_reducible show wpAny _ _ (call (Value.ref _) _ _) _ _ _); (k_here; ( ((with_reducible show wpAny _ _ (call (Value.ref 198) _ _) _ _ _); k_dflt (refine' told_use (by first | assumption | exact DeedB.out (by assumption) _) (by k_asm) (by assumption) (by assumption) (by assumption) (by assumption) (by assumption) (by assumption) (by k_asm) (by k_asm) (by k_asm) (by k_asm) (by exact rfl) (by exact rfl) (by exact rfl) (by exact rfl) (by exact Nat.le_of_ble_eq_true rfl) (by exact Nat.le_of_ble_eq_true rfl) ?_; k_whole; intro t9 h9 tk9 g9 T9 F9 N9 B9 X9 P9 D9 S9; (have L9 := standList S9 (by assumption)); (try k_lift B9); (try dsimp only [toldV]); (try k_sweep)))))) | with_reducible ((with_reducible show wpAny _ _ (call (Value.builtin "str.encode") _ _) _ _ _); (refine encode_call (by exact pad_chars (Hid.out (by assumption))) (by exact pad_size (by assumption) (by decide)) ?_; intro t9 k9; (try dsimp only))) | ((with_reducible show wpAny _ _ (call (Value.builtin "str.encode") _ _) _ _ _); (refine encode_call (by exact pad_chars (Hid.out (by assumption))) (by exact pad_size (by assumption) (by decide)) ?_; intro t9 k9; (try dsimp only))) | with_reducible ((with_reducible show wpAny _ _ (getMethod (Value.str _ _) _ _) _ _ _); (k_here; with_reducible refine getm_encode ?_)) | with_reducible ((with_reducible show ite _ _ _); first | (refine ite_neg (by (simp only [bne_self_eq_false, Bool.false_eq_true, not_false_eq_true]; done)) ?_; walk_say "m same -") | (refine ite_pos (by (simp only [beq_self_eq_true]; done)) ?_; walk_say "m same +")) | with_reducible ((with_reducible show wpAny _ _ (newTuple _) _ _ _); (k_here; (rename InElt _ _ => kE'); k_dflt (refine' newTuple_E (by k_asm) (by k_asm) kE' ?_ (by size_fits)); intro D' h' F' N' cE' l1; (try k_lt l1))) | with_reducible ((with_reducible show wpAny _ _ (call (Value.ref _) _ _) _ _ _); (k_here; ( ((with_reducible show wpAny _ _ (call (Value.ref 191) _ _) _ _ _); k_dflt (refine' octets_use (by k_asm) (by k_asm) (by k_asm) (by k_asm) (by k_asm) (by exact rfl) (by exact rfl) (by exact rfl) (by exact rfl) (by exact Nat.le_of_ble_eq_true rfl) (by exact Nat.le_of_ble_eq_true rfl) (by exact News.isList (by k_asm) (by k_mem)) (by assumption) (by assumption) (by assumption) ?_; k_whole; intro t9 h9 tk9 F9 N9; (try dsimp only); (try k_sweep)))))) | with_reducible ((with_reducible show _ ∧ PySem.Keeps _ _); refine stop_here ?_) | with_reducible ((with_reducible show CompPack _); refine stop_here ?_) | with_reducible ((with_reducible show wpAny _ _ (binaryOp Operator.Mult (Value.str _ _) (Value.int _ _)) _ _ _); refine stop_here ?_) | with_reducible ((with_reducible show wpAny _ _ (exec (Stmt.Assign (List.cons _ _) (Expr.ListComp _ _ _ _) _) _) _ _ _); refine stop_here ?_) | with_reducible ((with_reducible show ite _ _ _); first | (refine ite_pos (by ((try simp only [decide_eq_true_eq, beq_iff_eq, bne_iff_ne, ne_eq, Bool.not_eq_true']); omega)) ?_; walk_say "m ite +") | (refine ite_neg (by ((try simp only [decide_eq_true_eq, beq_iff_eq, bne_iff_ne, ne_eq, Bool.not_eq_true']); omega)) ?_; walk_say "m ite -")) | with_reducible ((with_reducible show InvEndN _ _ _ _ _ _ _); refine stop_here ?_)) | walk1 | (dsimp only; walk1) | (leave1; walk_say "STEP leave1"; try dsimp only) | fail "no step"))
    all_goals refine Stop.of ?_
    all_goals rename InElt _ _ => kE'
    · rename f < 62 => h1
      exact ⟨by simp [shownP, h1], _, _, rfl, kE'⟩
    · rename (List.any _ _) = true => h1
      refine ⟨?_, _, _, rfl, kE'⟩
      simp only [List.any_cons, List.any_nil, Bool.or_false, Bool.or_eq_true, beq_iff_eq] at h1
      simp only [shownP]
      refine (decide_eq_true ?_).symm
      rcases h1 with h1 | h1
      · exact .inr (.inl h1.symm)
      · exact .inr (.inr h1.symm)
    · rename (List.any _ _) = false => h1
      rename ¬ f < 62 => h2
      refine ⟨?_, _, _, rfl, kE'⟩
      simp only [List.any_cons, List.any_nil, Bool.or_false, Bool.or_eq_false_iff, beq_eq_false_iff_ne] at h1
      simp only [shownP]
      refine (decide_eq_false ?_).symm
      rintro (h | h | h)
      · exact h2 h
      · exact h1.1 h.symm
      · exact h1.2 h.symm
  · intro C f v s₂ m₂ E' hC hmem hK hpz hn hm hk
    obtain ⟨tf, rfl⟩ := ItemKind.int_is hK
    (repeat' (first | (k_unfold; (try dsimp only)) | (first | with_reducible ((with_reducible show wpAny _ _ (call (Value.ref _) _ _) _ _ _); (k_here; ( ((with_reducible show wpAny _ _ (call (Value.ref 198) _ _) _ _ _); k_dflt (refine' told_use (by first | assumption | exact DeedB.out (by assumption) _) (by k_asm) (by assumption) (by assumption) (by assumption) (by assumption) (by assumption) (by assumption) (by k_asm) (by k_asm) (by k_asm) (by k_asm) (by exact rfl) (by exact rfl) (by exact rfl) (by exact rfl) (by exact Nat.le_of_ble_eq_true rfl) (by exact Nat.le_of_ble_eq_true rfl) ?_; k_whole; intro t9 h9 tk9 g9 T9 F9 N9 B9 X9 P9 D9 S9; (have L9 := standList S9 (by assumption)); (try k_lift B9); (try dsimp only [toldV]); (try k_sweep)))))) | with_reducible ((with_reducible show wpAny _ _ (call (Value.builtin "str.encode") _ _) _ _ _); (refine encode_call (by exact pad_chars (Hid.out (by assumption))) (by exact pad_size (by assumption) (by decide)) ?_; intro t9 k9; (try dsimp only))) | ((with_reducible show wpAny _ _ (call (Value.builtin "str.encode") _ _) _ _ _); (refine encode_call (by exact pad_chars (Hid.out (by assumption))) (by exact pad_size (by assumption) (by decide)) ?_; intro t9 k9; (try dsimp only))) | with_reducible ((with_reducible show wpAny _ _ (getMethod (Value.str _ _) _ _) _ _ _); (k_here; with_reducible refine getm_encode ?_)) | with_reducible ((with_reducible show ite _ _ _); first | (refine ite_neg (by (simp only [bne_self_eq_false, Bool.false_eq_true, not_false_eq_true]; done)) ?_; walk_say "m same -") | (refine ite_pos (by (simp only [beq_self_eq_true]; done)) ?_; walk_say "m same +")) | with_reducible ((with_reducible show wpAny _ _ (newTuple _) _ _ _); (k_here; (rename InElt _ _ => kE'); k_dflt (refine' newTuple_E (by k_asm) (by k_asm) kE' ?_ (by size_fits)); intro D' h' F' N' cE' l1; (try k_lt l1))) | with_reducible ((with_reducible show wpAny _ _ (call (Value.ref _) _ _) _ _ _); (k_here; ( ((with_reducible show wpAny _ _ (call (Value.ref 191) _ _) _ _ _); k_dflt (refine' octets_use (by k_asm) (by k_asm) (by k_asm) (by k_asm) (by k_asm) (by exact rfl) (by exact rfl) (by exact rfl) (by exact rfl) (by exact Nat.le_of_ble_eq_true rfl) (by exact Nat.le_of_ble_eq_true rfl) (by exact News.isList (by k_asm) (by k_mem)) (by assumption) (by assumption) (by assumption) ?_; k_whole; intro t9 h9 tk9 F9 N9; (try dsimp only); (try k_sweep)))))) | with_reducible ((with_reducible show _ ∧ PySem.Keeps _ _); refine stop_here ?_) | with_reducible ((with_reducible show CompPack _); refine stop_here ?_) | with_reducible ((with_reducible show wpAny _ _ (binaryOp Operator.Mult (Value.str _ _) (Value.int _ _)) _ _ _); refine stop_here ?_) | with_reducible ((with_reducible show wpAny _ _ (exec (Stmt.Assign (List.cons _ _) (Expr.ListComp _ _ _ _) _) _) _ _ _); refine stop_here ?_) | with_reducible ((with_reducible show ite _ _ _); first | (refine ite_pos (by ((try simp only [decide_eq_true_eq, beq_iff_eq, bne_iff_ne, ne_eq, Bool.not_eq_true']); omega)) ?_; walk_say "m ite +") | (refine ite_neg (by ((try simp only [decide_eq_true_eq, beq_iff_eq, bne_iff_ne, ne_eq, Bool.not_eq_true']); omega)) ?_; walk_say "m ite -")) | with_reducible ((with_reducible show InvEndN _ _ _ _ _ _ _); refine stop_here ?_)) | walk1 | (dsimp only; walk1) | (leave1; walk_say "STEP leave1"; try dsimp only) | fail "no step"))
    all_goals refine Stop.of ?_
    all_goals rename InElt _ _ => kE'
    · rename f = q => h1
      refine ⟨?_, _, _, rfl, kE'⟩
      rw [show shownF p q f = 63 by unfold shownF; rw [if_pos h1]]
      exact .int _ _
    · rename f = p => h1
      rename f ≠ q => h2
      refine ⟨?_, _, _, rfl, kE'⟩
      rw [show shownF p q f = 62 by unfold shownF; rw [if_neg h2, if_pos h1]]
      exact .int _ _
    · rename f ≠ p => h1
      rename f ≠ q => h2
      refine ⟨?_, _, _, rfl, kE'⟩
      rw [show shownF p q f = f by unfold shownF; rw [if_neg h2, if_neg h1]]
      exact .int _ _
  · intro D0 ys h' tk kF kN hD hDl hpl hC
    have hIy : IntsAre ys (shownM p q fs) := CarriedAll.intsOf hC
    obtain ⟨nx, kN2⟩ := newsPlain kF kN hD hpl
    have hshl : (shownM p q fs).length ≤ fs.length := shown_len
    have hshi := Hid.mk (shown_in (p := p) (q := q) hin)
    clear nF nN hC hDl hpl hD kN
    generalize shownM p q fs = sh at *
    have hsh62 : sh.length ≤ 62 := by omega
    have hyl := hIy.length
    have hr : sh.length % 4 = 0 ∨ sh.length % 4 = 1 ∨ sh.length % 4 = 2 ∨ sh.length % 4 = 3 := by omega
    rcases hr with hr | hr | hr | hr
    · have hfm : (sh.length : Int).fmod 4 = 0 := by rw [Int.fmod_eq_emod_of_nonneg _ (by decide)]; omega
      have hpk : ((-(sh.length : Int)).fmod 4).fmod 3 = 0 := by rw [Int.fmod_eq_emod_of_nonneg _ (by decide), Int.fmod_eq_emod_of_nonneg _ (by decide)]; omega
      have e1 : dueE sh = .ok (byteArr (octsM sh)) := by unfold dueE; rw [hr]; rfl
      have e2 : bareE sh = .ok (byteArr (octsM sh)) := by unfold bareE; rw [hr]; exact e1
      have e3 : fillB x sh = asciiOf (x ++ padS 0) := by unfold fillB; rw [hr]; rfl
      rw [e1] at df dg
      rw [e2] at dl ds
      rw [e3] at df dg
      clear e1 e2 e3
      (repeat' (first | (k_unfold; (try dsimp only)) | (first | with_reducible ((with_reducible show wpAny _ _ (call (Value.ref _) _ _) _ _ _); (k_here; ( ((with_reducible show wpAny _ _ (call (Value.ref 198) _ _) _ _ _); k_dflt (refine' told_use (by first | assumption | exact DeedB.out (by assumption) _) (by k_asm) (by assumption) (by assumption) (by assumption) (by assumption) (by assumption) (by assumption) (by k_asm) (by k_asm) (by k_asm) (by k_asm) (by exact rfl) (by exact rfl) (by exact rfl) (by exact rfl) (by exact Nat.le_of_ble_eq_true rfl) (by exact Nat.le_of_ble_eq_true rfl) ?_; k_whole; intro t9 h9 tk9 g9 T9 F9 N9 B9 X9 P9 D9 S9; (have L9 := standList S9 (by assumption)); (try k_lift B9); (try dsimp only [toldV]); (try k_sweep)))))) | with_reducible ((with_reducible show wpAny _ _ (call (Value.builtin "str.encode") _ _) _ _ _); (refine encode_call (by exact pad_chars (Hid.out (by assumption))) (by exact pad_size (by assumption) (by decide)) ?_; intro t9 k9; (try dsimp only))) | ((with_reducible show wpAny _ _ (call (Value.builtin "str.encode") _ _) _ _ _); (refine encode_call (by exact pad_chars (Hid.out (by assumption))) (by exact pad_size (by assumption) (by decide)) ?_; intro t9 k9; (try dsimp only))) | with_reducible ((with_reducible show wpAny _ _ (getMethod (Value.str _ _) _ _) _ _ _); (k_here; with_reducible refine getm_encode ?_)) | with_reducible ((with_reducible show ite _ _ _); first | (refine ite_neg (by (simp only [bne_self_eq_false, Bool.false_eq_true, not_false_eq_true]; done)) ?_; walk_say "m same -") | (refine ite_pos (by (simp only [beq_self_eq_true]; done)) ?_; walk_say "m same +")) | with_reducible ((with_reducible show wpAny _ _ (newTuple _) _ _ _); (k_here; (rename InElt _ _ => kE'); k_dflt (refine' newTuple_E (by k_asm) (by k_asm) kE' ?_ (by size_fits)); intro D' h' F' N' cE' l1; (try k_lt l1))) | with_reducible ((with_reducible show wpAny _ _ (call (Value.ref _) _ _) _ _ _); (k_here; ( ((with_reducible show wpAny _ _ (call (Value.ref 191) _ _) _ _ _); k_dflt (refine' octets_use (by k_asm) (by k_asm) (by k_asm) (by k_asm) (by k_asm) (by exact rfl) (by exact rfl) (by exact rfl) (by exact rfl) (by exact Nat.le_of_ble_eq_true rfl) (by exact Nat.le_of_ble_eq_true rfl) (by exact News.isList (by k_asm) (by k_mem)) (by assumption) (by assumption) (by assumption) ?_; k_whole; intro t9 h9 tk9 F9 N9; (try dsimp only); (try k_sweep)))))) | with_reducible ((with_reducible show _ ∧ PySem.Keeps _ _); refine stop_here ?_) | with_reducible ((with_reducible show CompPack _); refine stop_here ?_) | with_reducible ((with_reducible show wpAny _ _ (binaryOp Operator.Mult (Value.str _ _) (Value.int _ _)) _ _ _); refine stop_here ?_) | with_reducible ((with_reducible show wpAny _ _ (exec (Stmt.Assign (List.cons _ _) (Expr.ListComp _ _ _ _) _) _) _ _ _); refine stop_here ?_) | with_reducible ((with_reducible show ite _ _ _); first | (refine ite_pos (by ((try simp only [decide_eq_true_eq, beq_iff_eq, bne_iff_ne, ne_eq, Bool.not_eq_true']); omega)) ?_; walk_say "m ite +") | (refine ite_neg (by ((try simp only [decide_eq_true_eq, beq_iff_eq, bne_iff_ne, ne_eq, Bool.not_eq_true']); omega)) ?_; walk_say "m ite -")) | with_reducible ((with_reducible show InvEndN _ _ _ _ _ _ _); refine stop_here ?_)) | walk1 | (dsimp only; walk1) | (leave1; walk_say "STEP leave1"; try dsimp only) | fail "no step"))
      refine Stop.of ?_
      rw [hpk]
      refine SB.mul (mulOk_of 16 1048576 (by decide) (by decide) (by decide) (by decide) (by decide)) ?_
      intro t9 k9
      rw [show Txt.mul (Str.ofString "=") 0 = padS 0 from by decide +kernel]
      (repeat' (first | (k_unfold; (try dsimp only)) | (first | with_reducible ((with_reducible show wpAny _ _ (call (Value.ref _) _ _) _ _ _); (k_here; ( ((with_reducible show wpAny _ _ (call (Value.ref 198) _ _) _ _ _); k_dflt (refine' told_use (by first | assumption | exact DeedB.out (by assumption) _) (by k_asm) (by assumption) (by assumption) (by assumption) (by assumption) (by assumption) (by assumption) (by k_asm) (by k_asm) (by k_asm) (by k_asm) (by exact rfl) (by exact rfl) (by exact rfl) (by exact rfl) (by exact Nat.le_of_ble_eq_true rfl) (by exact Nat.le_of_ble_eq_true rfl) ?_; k_whole; intro t9 h9 tk9 g9 T9 F9 N9 B9 X9 P9 D9 S9; (have L9 := standList S9 (by assumption)); (try k_lift B9); (try dsimp only [toldV]); (try k_sweep)))))) | with_reducible ((with_reducible show wpAny _ _ (call (Value.builtin "str.encode") _ _) _ _ _); (refine encode_call (by exact pad_chars (Hid.out (by assumption))) (by exact pad_size (by assumption) (by decide)) ?_; intro t9 k9; (try dsimp only))) | ((with_reducible show wpAny _ _ (call (Value.builtin "str.encode") _ _) _ _ _); (refine encode_call (by exact pad_chars (Hid.out (by assumption))) (by exact pad_size (by assumption) (by decide)) ?_; intro t9 k9; (try dsimp only))) | with_reducible ((with_reducible show wpAny _ _ (getMethod (Value.str _ _) _ _) _ _ _); (k_here; with_reducible refine getm_encode ?_)) | with_reducible ((with_reducible show ite _ _ _); first | (refine ite_neg (by (simp only [bne_self_eq_false, Bool.false_eq_true, not_false_eq_true]; done)) ?_; walk_say "m same -") | (refine ite_pos (by (simp only [beq_self_eq_true]; done)) ?_; walk_say "m same +")) | with_reducible ((with_reducible show wpAny _ _ (newTuple _) _ _ _); (k_here; (rename InElt _ _ => kE'); k_dflt (refine' newTuple_E (by k_asm) (by k_asm) kE' ?_ (by size_fits)); intro D' h' F' N' cE' l1; (try k_lt l1))) | with_reducible ((with_reducible show wpAny _ _ (call (Value.ref _) _ _) _ _ _); (k_here; ( ((with_reducible show wpAny _ _ (call (Value.ref 191) _ _) _ _ _); k_dflt (refine' octets_use (by k_asm) (by k_asm) (by k_asm) (by k_asm) (by k_asm) (by exact rfl) (by exact rfl) (by exact rfl) (by exact rfl) (by exact Nat.le_of_ble_eq_true rfl) (by exact Nat.le_of_ble_eq_true rfl) (by exact News.isList (by k_asm) (by k_mem)) (by assumption) (by assumption) (by assumption) ?_; k_whole; intro t9 h9 tk9 F9 N9; (try dsimp only); (try k_sweep)))))) | with_reducible ((with_reducible show _ ∧ PySem.Keeps _ _); refine stop_here ?_) | with_reducible ((with_reducible show CompPack _); refine stop_here ?_) | with_reducible ((with_reducible show wpAny _ _ (binaryOp Operator.Mult (Value.str _ _) (Value.int _ _)) _ _ _); refine stop_here ?_) | with_reducible ((with_reducible show wpAny _ _ (exec (Stmt.Assign (List.cons _ _) (Expr.ListComp _ _ _ _) _) _) _ _ _); refine stop_here ?_) | with_reducible ((with_reducible show ite _ _ _); first | (refine ite_pos (by ((try simp only [decide_eq_true_eq, beq_iff_eq, bne_iff_ne, ne_eq, Bool.not_eq_true']); omega)) ?_; walk_say "m ite +") | (refine ite_neg (by ((try simp only [decide_eq_true_eq, beq_iff_eq, bne_iff_ne, ne_eq, Bool.not_eq_true']); omega)) ?_; walk_say "m ite -")) | with_reducible ((with_reducible show InvEndN _ _ _ _ _ _ _); refine stop_here ?_)) | walk1 | (dsimp only; walk1) | (leave1; walk_say "STEP leave1"; try dsimp only) | fail "no step"))
      all_goals first
        | (rename ((sh.length : Int) < (fs.length : Int)) => hlt9
           simp only [onlyE_lt hlt9] at ds dg ⊢
           try dsimp only
           (repeat' (first | (k_unfold; (try dsimp only)) | (first | with_reducible ((with_reducible show wpAny _ _ (call (Value.ref _) _ _) _ _ _); (k_here; ( ((with_reducible show wpAny _ _ (call (Value.ref 198) _ _) _ _ _); k_dflt (refine' told_use (by first | assumption | exact DeedB.out (by assumption) _) (by k_asm) (by assumption) (by assumption) (by assumption) (by assumption) (by assumption) (by assumption) (by k_asm) (by k_asm) (by k_asm) (by k_asm) (by exact rfl) (by exact rfl) (by exact rfl) (by exact rfl) (by exact Nat.le_of_ble_eq_true rfl) (by exact Nat.le_of_ble_eq_true rfl) ?_; k_whole; intro t9 h9 tk9 g9 T9 F9 N9 B9 X9 P9 D9 S9; (have L9 := standList S9 (by assumption)); (try k_lift B9); (try dsimp only [toldV]); (try k_sweep)))))) | with_reducible ((with_reducible show wpAny _ _ (call (Value.builtin "str.encode") _ _) _ _ _); (refine encode_call (by exact pad_chars (Hid.out (by assumption))) (by exact pad_size (by assumption) (by decide)) ?_; intro t9 k9; (try dsimp only))) | ((with_reducible show wpAny _ _ (call (Value.builtin "str.encode") _ _) _ _ _); (refine encode_call (by exact pad_chars (Hid.out (by assumption))) (by exact pad_size (by assumption) (by decide)) ?_; intro t9 k9; (try dsimp only))) | with_reducible ((with_reducible show wpAny _ _ (getMethod (Value.str _ _) _ _) _ _ _); (k_here; with_reducible refine getm_encode ?_)) | with_reducible ((with_reducible show ite _ _ _); first | (refine ite_neg (by (simp only [bne_self_eq_false, Bool.false_eq_true, not_false_eq_true]; done)) ?_; walk_say "m same -") | (refine ite_pos (by (simp only [beq_self_eq_true]; done)) ?_; walk_say "m same +")) | with_reducible ((with_reducible show wpAny _ _ (newTuple _) _ _ _); (k_here; (rename InElt _ _ => kE'); k_dflt (refine' newTuple_E (by k_asm) (by k_asm) kE' ?_ (by size_fits)); intro D' h' F' N' cE' l1; (try k_lt l1))) | with_reducible ((with_reducible show wpAny _ _ (call (Value.ref _) _ _) _ _ _); (k_here; ( ((with_reducible show wpAny _ _ (call (Value.ref 191) _ _) _ _ _); k_dflt (refine' octets_use (by k_asm) (by k_asm) (by k_asm) (by k_asm) (by k_asm) (by exact rfl) (by exact rfl) (by exact rfl) (by exact rfl) (by exact Nat.le_of_ble_eq_true rfl) (by exact Nat.le_of_ble_eq_true rfl) (by exact News.isList (by k_asm) (by k_mem)) (by assumption) (by assumption) (by assumption) ?_; k_whole; intro t9 h9 tk9 F9 N9; (try dsimp only); (try k_sweep)))))) | with_reducible ((with_reducible show _ ∧ PySem.Keeps _ _); refine stop_here ?_) | with_reducible ((with_reducible show CompPack _); refine stop_here ?_) | with_reducible ((with_reducible show wpAny _ _ (binaryOp Operator.Mult (Value.str _ _) (Value.int _ _)) _ _ _); refine stop_here ?_) | with_reducible ((with_reducible show wpAny _ _ (exec (Stmt.Assign (List.cons _ _) (Expr.ListComp _ _ _ _) _) _) _ _ _); refine stop_here ?_) | with_reducible ((with_reducible show ite _ _ _); first | (refine ite_pos (by ((try simp only [decide_eq_true_eq, beq_iff_eq, bne_iff_ne, ne_eq, Bool.not_eq_true']); omega)) ?_; walk_say "m ite +") | (refine ite_neg (by ((try simp only [decide_eq_true_eq, beq_iff_eq, bne_iff_ne, ne_eq, Bool.not_eq_true']); omega)) ?_; walk_say "m ite -")) | with_reducible ((with_reducible show InvEndN _ _ _ _ _ _ _); refine stop_here ?_)) | walk1 | (dsimp only; walk1) | (leave1; walk_say "STEP leave1"; try dsimp only) | fail "no step"))
           all_goals (rename Fr _ _ _ _ => nF; rename KtsTurn _ _ _ => nT; simp only [beq_self_eq_true]; exact hret.out _ _ ⟨_, nT, nF.keep⟩))
        | (rename (¬ (sh.length : Int) < (fs.length : Int)) => hlt9
           simp only [onlyE_ge hlt9] at ds dg ⊢
           try dsimp only
           (repeat' (first | (k_unfold; (try dsimp only)) | (first | with_reducible ((with_reducible show wpAny _ _ (call (Value.ref _) _ _) _ _ _); (k_here; ( ((with_reducible show wpAny _ _ (call (Value.ref 198) _ _) _ _ _); k_dflt (refine' told_use (by first | assumption | exact DeedB.out (by assumption) _) (by k_asm) (by assumption) (by assumption) (by assumption) (by assumption) (by assumption) (by assumption) (by k_asm) (by k_asm) (by k_asm) (by k_asm) (by exact rfl) (by exact rfl) (by exact rfl) (by exact rfl) (by exact Nat.le_of_ble_eq_true rfl) (by exact Nat.le_of_ble_eq_true rfl) ?_; k_whole; intro t9 h9 tk9 g9 T9 F9 N9 B9 X9 P9 D9 S9; (have L9 := standList S9 (by assumption)); (try k_lift B9); (try dsimp only [toldV]); (try k_sweep)))))) | with_reducible ((with_reducible show wpAny _ _ (call (Value.builtin "str.encode") _ _) _ _ _); (refine encode_call (by exact pad_chars (Hid.out (by assumption))) (by exact pad_size (by assumption) (by decide)) ?_; intro t9 k9; (try dsimp only))) | ((with_reducible show wpAny _ _ (call (Value.builtin "str.encode") _ _) _ _ _); (refine encode_call (by exact pad_chars (Hid.out (by assumption))) (by exact pad_size (by assumption) (by decide)) ?_; intro t9 k9; (try dsimp only))) | with_reducible ((with_reducible show wpAny _ _ (getMethod (Value.str _ _) _ _) _ _ _); (k_here; with_reducible refine getm_encode ?_)) | with_reducible ((with_reducible show ite _ _ _); first | (refine ite_neg (by (simp only [bne_self_eq_false, Bool.false_eq_true, not_false_eq_true]; done)) ?_; walk_say "m same -") | (refine ite_pos (by (simp only [beq_self_eq_true]; done)) ?_; walk_say "m same +")) | with_reducible ((with_reducible show wpAny _ _ (newTuple _) _ _ _); (k_here; (rename InElt _ _ => kE'); k_dflt (refine' newTuple_E (by k_asm) (by k_asm) kE' ?_ (by size_fits)); intro D' h' F' N' cE' l1; (try k_lt l1))) | with_reducible ((with_reducible show wpAny _ _ (call (Value.ref _) _ _) _ _ _); (k_here; ( ((with_reducible show wpAny _ _ (call (Value.ref 191) _ _) _ _ _); k_dflt (refine' octets_use (by k_asm) (by k_asm) (by k_asm) (by k_asm) (by k_asm) (by exact rfl) (by exact rfl) (by exact rfl) (by exact rfl) (by exact Nat.le_of_ble_eq_true rfl) (by exact Nat.le_of_ble_eq_true rfl) (by exact News.isList (by k_asm) (by k_mem)) (by assumption) (by assumption) (by assumption) ?_; k_whole; intro t9 h9 tk9 F9 N9; (try dsimp only); (try k_sweep)))))) | with_reducible ((with_reducible show _ ∧ PySem.Keeps _ _); refine stop_here ?_) | with_reducible ((with_reducible show CompPack _); refine stop_here ?_) | with_reducible ((with_reducible show wpAny _ _ (binaryOp Operator.Mult (Value.str _ _) (Value.int _ _)) _ _ _); refine stop_here ?_) | with_reducible ((with_reducible show wpAny _ _ (exec (Stmt.Assign (List.cons _ _) (Expr.ListComp _ _ _ _) _) _) _ _ _); refine stop_here ?_) | with_reducible ((with_reducible show ite _ _ _); first | (refine ite_pos (by ((try simp only [decide_eq_true_eq, beq_iff_eq, bne_iff_ne, ne_eq, Bool.not_eq_true']); omega)) ?_; walk_say "m ite +") | (refine ite_neg (by ((try simp only [decide_eq_true_eq, beq_iff_eq, bne_iff_ne, ne_eq, Bool.not_eq_true']); omega)) ?_; walk_say "m ite -")) | with_reducible ((with_reducible show InvEndN _ _ _ _ _ _ _); refine stop_here ?_)) | walk1 | (dsimp only; walk1) | (leave1; walk_say "STEP leave1"; try dsimp only) | fail "no step"))
           all_goals (rename Fr _ _ _ _ => nF; rename KtsTurn _ _ _ => nT; simp only [beq_self_eq_true]; exact hret.out _ _ ⟨_, nT, nF.keep⟩))
    · have hfm : (sh.length : Int).fmod 4 = 1 := by rw [Int.fmod_eq_emod_of_nonneg _ (by decide)]; omega
      have hpk : ((-(sh.length : Int)).fmod 4).fmod 3 = 0 := by rw [Int.fmod_eq_emod_of_nonneg _ (by decide), Int.fmod_eq_emod_of_nonneg _ (by decide)]; omega
      have e1 : dueE sh = .error (Str.ofString "Invalid base64-encoded string: number of data characters (" ++ Str.ofString (toString (sh.length : Int)) ++ Str.ofString ") cannot be 1 more than a multiple of 4") := by unfold dueE; rw [hr]; rfl
      have e2 : bareE sh = .error (Str.ofString "Invalid base64-encoded string: number of data characters (" ++ Str.ofString (toString (sh.length : Int)) ++ Str.ofString ") cannot be 1 more than a multiple of 4") := by unfold bareE; rw [hr]; exact e1
      have e3 : fillB x sh = asciiOf (x ++ padS 0) := by unfold fillB; rw [hr]; rfl
      rw [e1] at df dg
      rw [e2] at dl ds
      rw [e3] at df dg
      clear e1 e2 e3
      (repeat' (first | (k_unfold; (try dsimp only)) | (first | with_reducible ((with_reducible show wpAny _ _ (call (Value.ref _) _ _) _ _ _); (k_here; ( ((with_reducible show wpAny _ _ (call (Value.ref 198) _ _) _ _ _); k_dflt (refine' told_use (by first | assumption | exact DeedB.out (by assumption) _) (by k_asm) (by assumption) (by assumption) (by assumption) (by assumption) (by assumption) (by assumption) (by k_asm) (by k_asm) (by k_asm) (by k_asm) (by exact rfl) (by exact rfl) (by exact rfl) (by exact rfl) (by exact Nat.le_of_ble_eq_true rfl) (by exact Nat.le_of_ble_eq_true rfl) ?_; k_whole; intro t9 h9 tk9 g9 T9 F9 N9 B9 X9 P9 D9 S9; (have L9 := standList S9 (by assumption)); (try k_lift B9); (try dsimp only [toldV]); (try k_sweep)))))) | with_reducible ((with_reducible show wpAny _ _ (call (Value.builtin "str.encode") _ _) _ _ _); (refine encode_call (by exact pad_chars (Hid.out (by assumption))) (by exact pad_size (by assumption) (by decide)) ?_; intro t9 k9; (try dsimp only))) | ((with_reducible show wpAny _ _ (call (Value.builtin "str.encode") _ _) _ _ _); (refine encode_call (by exact pad_chars (Hid.out (by assumption))) (by exact pad_size (by assumption) (by decide)) ?_; intro t9 k9; (try dsimp only))) | with_reducible ((with_reducible show wpAny _ _ (getMethod (Value.str _ _) _ _) _ _ _); (k_here; with_reducible refine getm_encode ?_)) | with_reducible ((with_reducible show ite _ _ _); first | (refine ite_neg (by (simp only [bne_self_eq_false, Bool.false_eq_true, not_false_eq_true]; done)) ?_; walk_say "m same -") | (refine ite_pos (by (simp only [beq_self_eq_true]; done)) ?_; walk_say "m same +")) | with_reducible ((with_reducible show wpAny _ _ (newTuple _) _ _ _); (k_here; (rename InElt _ _ => kE'); k_dflt (refine' newTuple_E (by k_asm) (by k_asm) kE' ?_ (by size_fits)); intro D' h' F' N' cE' l1; (try k_lt l1))) | with_reducible ((with_reducible show wpAny _ _ (call (Value.ref _) _ _) _ _ _); (k_here; ( ((with_reducible show wpAny _ _ (call (Value.ref 191) _ _) _ _ _); k_dflt (refine' octets_use (by k_asm) (by k_asm) (by k_asm) (by k_asm) (by k_asm) (by exact rfl) (by exact rfl) (by exact rfl) (by exact rfl) (by exact Nat.le_of_ble_eq_true rfl) (by exact Nat.le_of_ble_eq_true rfl) (by exact News.isList (by k_asm) (by k_mem)) (by assumption) (by assumption) (by assumption) ?_; k_whole; intro t9 h9 tk9 F9 N9; (try dsimp only); (try k_sweep)))))) | with_reducible ((with_reducible show _ ∧ PySem.Keeps _ _); refine stop_here ?_) | with_reducible ((with_reducible show CompPack _); refine stop_here ?_) | with_reducible ((with_reducible show wpAny _ _ (binaryOp Operator.Mult (Value.str _ _) (Value.int _ _)) _ _ _); refine stop_here ?_) | with_reducible ((with_reducible show wpAny _ _ (exec (Stmt.Assign (List.cons _ _) (Expr.ListComp _ _ _ _) _) _) _ _ _); refine stop_here ?_) | with_reducible ((with_reducible show ite _ _ _); first | (refine ite_pos (by ((try simp only [decide_eq_true_eq, beq_iff_eq, bne_iff_ne, ne_eq, Bool.not_eq_true']); omega)) ?_; walk_say "m ite +") | (refine ite_neg (by ((try simp only [decide_eq_true_eq, beq_iff_eq, bne_iff_ne, ne_eq, Bool.not_eq_true']); omega)) ?_; walk_say "m ite -")) | with_reducible ((with_reducible show InvEndN _ _ _ _ _ _ _); refine stop_here ?_)) | walk1 | (dsimp only; walk1) | (leave1; walk_say "STEP leave1"; try dsimp only) | fail "no step"))
      refine Stop.of ?_
      rw [hpk]
      refine SB.mul (mulOk_of 16 1048576 (by decide) (by decide) (by decide) (by decide) (by decide)) ?_
      intro t9 k9
      rw [show Txt.mul (Str.ofString "=") 0 = padS 0 from by decide +kernel]
      (repeat' (first | (k_unfold; (try dsimp only)) | (first | with_reducible ((with_reducible show wpAny _ _ (call (Value.ref _) _ _) _ _ _); (k_here; ( ((with_reducible show wpAny _ _ (call (Value.ref 198) _ _) _ _ _); k_dflt (refine' told_use (by first | assumption | exact DeedB.out (by assumption) _) (by k_asm) (by assumption) (by assumption) (by assumption) (by assumption) (by assumption) (by assumption) (by k_asm) (by k_asm) (by k_asm) (by k_asm) (by exact rfl) (by exact rfl) (by exact rfl) (by exact rfl) (by exact Nat.le_of_ble_eq_true rfl) (by exact Nat.le_of_ble_eq_true rfl) ?_; k_whole; intro t9 h9 tk9 g9 T9 F9 N9 B9 X9 P9 D9 S9; (have L9 := standList S9 (by assumption)); (try k_lift B9); (try dsimp only [toldV]); (try k_sweep)))))) | with_reducible ((with_reducible show wpAny _ _ (call (Value.builtin "str.encode") _ _) _ _ _); (refine encode_call (by exact pad_chars (Hid.out (by assumption))) (by exact pad_size (by assumption) (by decide)) ?_; intro t9 k9; (try dsimp only))) | ((with_reducible show wpAny _ _ (call (Value.builtin "str.encode") _ _) _ _ _); (refine encode_call (by exact pad_chars (Hid.out (by assumption))) (by exact pad_size (by assumption) (by decide)) ?_; intro t9 k9; (try dsimp only))) | with_reducible ((with_reducible show wpAny _ _ (getMethod (Value.str _ _) _ _) _ _ _); (k_here; with_reducible refine getm_encode ?_)) | with_reducible ((with_reducible show ite _ _ _); first | (refine ite_neg (by (simp only [bne_self_eq_false, Bool.false_eq_true, not_false_eq_true]; done)) ?_; walk_say "m same -") | (refine ite_pos (by (simp only [beq_self_eq_true]; done)) ?_; walk_say "m same +")) | with_reducible ((with_reducible show wpAny _ _ (newTuple _) _ _ _); (k_here; (rename InElt _ _ => kE'); k_dflt (refine' newTuple_E (by k_asm) (by k_asm) kE' ?_ (by size_fits)); intro D' h' F' N' cE' l1; (try k_lt l1))) | with_reducible ((with_reducible show wpAny _ _ (call (Value.ref _) _ _) _ _ _); (k_here; ( ((with_reducible show wpAny _ _ (call (Value.ref 191) _ _) _ _ _); k_dflt (refine' octets_use (by k_asm) (by k_asm) (by k_asm) (by k_asm) (by k_asm) (by exact rfl) (by exact rfl) (by exact rfl) (by exact rfl) (by exact Nat.le_of_ble_eq_true rfl) (by exact Nat.le_of_ble_eq_true rfl) (by exact News.isList (by k_asm) (by k_mem)) (by assumption) (by assumption) (by assumption) ?_; k_whole; intro t9 h9 tk9 F9 N9; (try dsimp only); (try k_sweep)))))) | with_reducible ((with_reducible show _ ∧ PySem.Keeps _ _); refine stop_here ?_) | with_reducible ((with_reducible show CompPack _); refine stop_here ?_) | with_reducible ((with_reducible show wpAny _ _ (binaryOp Operator.Mult (Value.str _ _) (Value.int _ _)) _ _ _); refine stop_here ?_) | with_reducible ((with_reducible show wpAny _ _ (exec (Stmt.Assign (List.cons _ _) (Expr.ListComp _ _ _ _) _) _) _ _ _); refine stop_here ?_) | with_reducible ((with_reducible show ite _ _ _); first | (refine ite_pos (by ((try simp only [decide_eq_true_eq, beq_iff_eq, bne_iff_ne, ne_eq, Bool.not_eq_true']); omega)) ?_; walk_say "m ite +") | (refine ite_neg (by ((try simp only [decide_eq_true_eq, beq_iff_eq, bne_iff_ne, ne_eq, Bool.not_eq_true']); omega)) ?_; walk_say "m ite -")) | with_reducible ((with_reducible show InvEndN _ _ _ _ _ _ _); refine stop_here ?_)) | walk1 | (dsimp only; walk1) | (leave1; walk_say "STEP leave1"; try dsimp only) | fail "no step"))
      all_goals first
        | (rename ((sh.length : Int) < (fs.length : Int)) => hlt9
           simp only [onlyE_lt hlt9] at ds dg ⊢
           try dsimp only
           (repeat' (first | (k_unfold; (try dsimp only)) | (first | with_reducible ((with_reducible show wpAny _ _ (call (Value.ref _) _ _) _ _ _); (k_here; ( ((with_reducible show wpAny _ _ (call (Value.ref 198) _ _) _ _ _); k_dflt (refine' told_use (by first | assumption | exact DeedB.out (by assumption) _) (by k_asm) (by assumption) (by assumption) (by assumption) (by assumption) (by assumption) (by assumption) (by k_asm) (by k_asm) (by k_asm) (by k_asm) (by exact rfl) (by exact rfl) (by exact rfl) (by exact rfl) (by exact Nat.le_of_ble_eq_true rfl) (by exact Nat.le_of_ble_eq_true rfl) ?_; k_whole; intro t9 h9 tk9 g9 T9 F9 N9 B9 X9 P9 D9 S9; (have L9 := standList S9 (by assumption)); (try k_lift B9); (try dsimp only [toldV]); (try k_sweep)))))) | with_reducible ((with_reducible show wpAny _ _ (call (Value.builtin "str.encode") _ _) _ _ _); (refine encode_call (by exact pad_chars (Hid.out (by assumption))) (by exact pad_size (by assumption) (by decide)) ?_; intro t9 k9; (try dsimp only))) | ((with_reducible show wpAny _ _ (call (Value.builtin "str.encode") _ _) _ _ _); (refine encode_call (by exact pad_chars (Hid.out (by assumption))) (by exact pad_size (by assumption) (by decide)) ?_; intro t9 k9; (try dsimp only))) | with_reducible ((with_reducible show wpAny _ _ (getMethod (Value.str _ _) _ _) _ _ _); (k_here; with_reducible refine getm_encode ?_)) | with_reducible ((with_reducible show ite _ _ _); first | (refine ite_neg (by (simp only [bne_self_eq_false, Bool.false_eq_true, not_false_eq_true]; done)) ?_; walk_say "m same -") | (refine ite_pos (by (simp only [beq_self_eq_true]; done)) ?_; walk_say "m same +")) | with_reducible ((with_reducible show wpAny _ _ (newTuple _) _ _ _); (k_here; (rename InElt _ _ => kE'); k_dflt (refine' newTuple_E (by k_asm) (by k_asm) kE' ?_ (by size_fits)); intro D' h' F' N' cE' l1; (try k_lt l1))) | with_reducible ((with_reducible show wpAny _ _ (call (Value.ref _) _ _) _ _ _); (k_here; ( ((with_reducible show wpAny _ _ (call (Value.ref 191) _ _) _ _ _); k_dflt (refine' octets_use (by k_asm) (by k_asm) (by k_asm) (by k_asm) (by k_asm) (by exact rfl) (by exact rfl) (by exact rfl) (by exact rfl) (by exact Nat.le_of_ble_eq_true rfl) (by exact Nat.le_of_ble_eq_true rfl) (by exact News.isList (by k_asm) (by k_mem)) (by assumption) (by assumption) (by assumption) ?_; k_whole; intro t9 h9 tk9 F9 N9; (try dsimp only); (try k_sweep)))))) | with_reducible ((with_reducible show _ ∧ PySem.Keeps _ _); refine stop_here ?_) | with_reducible ((with_reducible show CompPack _); refine stop_here ?_) | with_reducible ((with_reducible show wpAny _ _ (binaryOp Operator.Mult (Value.str _ _) (Value.int _ _)) _ _ _); refine stop_here ?_) | with_reducible ((with_reducible show wpAny _ _ (exec (Stmt.Assign (List.cons _ _) (Expr.ListComp _ _ _ _) _) _) _ _ _); refine stop_here ?_) | with_reducible ((with_reducible show ite _ _ _); first | (refine ite_pos (by ((try simp only [decide_eq_true_eq, beq_iff_eq, bne_iff_ne, ne_eq, Bool.not_eq_true']); omega)) ?_; walk_say "m ite +") | (refine ite_neg (by ((try simp only [decide_eq_true_eq, beq_iff_eq, bne_iff_ne, ne_eq, Bool.not_eq_true']); omega)) ?_; walk_say "m ite -")) | with_reducible ((with_reducible show InvEndN _ _ _ _ _ _ _); refine stop_here ?_)) | walk1 | (dsimp only; walk1) | (leave1; walk_say "STEP leave1"; try dsimp only) | fail "no step"))
           all_goals (rename Fr _ _ _ _ => nF; rename KtsTurn _ _ _ => nT; simp only [beq_self_eq_true]; exact hret.out _ _ ⟨_, nT, nF.keep⟩))
        | (rename (¬ (sh.length : Int) < (fs.length : Int)) => hlt9
           simp only [onlyE_ge hlt9] at ds dg ⊢
           try dsimp only
           (repeat' (first | (k_unfold; (try dsimp only)) | (first | with_reducible ((with_reducible show wpAny _ _ (call (Value.ref _) _ _) _ _ _); (k_here; ( ((with_reducible show wpAny _ _ (call (Value.ref 198) _ _) _ _ _); k_dflt (refine' told_use (by first | assumption | exact DeedB.out (by assumption) _) (by k_asm) (by assumption) (by assumption) (by assumption) (by assumption) (by assumption) (by assumption) (by k_asm) (by k_asm) (by k_asm) (by k_asm) (by exact rfl) (by exact rfl) (by exact rfl) (by exact rfl) (by exact Nat.le_of_ble_eq_true rfl) (by exact Nat.le_of_ble_eq_true rfl) ?_; k_whole; intro t9 h9 tk9 g9 T9 F9 N9 B9 X9 P9 D9 S9; (have L9 := standList S9 (by assumption)); (try k_lift B9); (try dsimp only [toldV]); (try k_sweep)))))) | with_reducible ((with_reducible show wpAny _ _ (call (Value.builtin "str.encode") _ _) _ _ _); (refine encode_call (by exact pad_chars (Hid.out (by assumption))) (by exact pad_size (by assumption) (by decide)) ?_; intro t9 k9; (try dsimp only))) | ((with_reducible show wpAny _ _ (call (Value.builtin "str.encode") _ _) _ _ _); (refine encode_call (by exact pad_chars (Hid.out (by assumption))) (by exact pad_size (by assumption) (by decide)) ?_; intro t9 k9; (try dsimp only))) | with_reducible ((with_reducible show wpAny _ _ (getMethod (Value.str _ _) _ _) _ _ _); (k_here; with_reducible refine getm_encode ?_)) | with_reducible ((with_reducible show ite _ _ _); first | (refine ite_neg (by (simp only [bne_self_eq_false, Bool.false_eq_true, not_false_eq_true]; done)) ?_; walk_say "m same -") | (refine ite_pos (by (simp only [beq_self_eq_true]; done)) ?_; walk_say "m same +")) | with_reducible ((with_reducible show wpAny _ _ (newTuple _) _ _ _); (k_here; (rename InElt _ _ => kE'); k_dflt (refine' newTuple_E (by k_asm) (by k_asm) kE' ?_ (by size_fits)); intro D' h' F' N' cE' l1; (try k_lt l1))) | with_reducible ((with_reducible show wpAny _ _ (call (Value.ref _) _ _) _ _ _); (k_here; ( ((with_reducible show wpAny _ _ (call (Value.ref 191) _ _) _ _ _); k_dflt (refine' octets_use (by k_asm) (by k_asm) (by k_asm) (by k_asm) (by k_asm) (by exact rfl) (by exact rfl) (by exact rfl) (by exact rfl) (by exact Nat.le_of_ble_eq_true rfl) (by exact Nat.le_of_ble_eq_true rfl) (by exact News.isList (by k_asm) (by k_mem)) (by assumption) (by assumption) (by assumption) ?_; k_whole; intro t9 h9 tk9 F9 N9; (try dsimp only); (try k_sweep)))))) | with_reducible ((with_reducible show _ ∧ PySem.Keeps _ _); refine stop_here ?_) | with_reducible ((with_reducible show CompPack _); refine stop_here ?_) | with_reducible ((with_reducible show wpAny _ _ (binaryOp Operator.Mult (Value.str _ _) (Value.int _ _)) _ _ _); refine stop_here ?_) | with_reducible ((with_reducible show wpAny _ _ (exec (Stmt.Assign (List.cons _ _) (Expr.ListComp _ _ _ _) _) _) _ _ _); refine stop_here ?_) | with_reducible ((with_reducible show ite _ _ _); first | (refine ite_pos (by ((try simp only [decide_eq_true_eq, beq_iff_eq, bne_iff_ne, ne_eq, Bool.not_eq_true']); omega)) ?_; walk_say "m ite +") | (refine ite_neg (by ((try simp only [decide_eq_true_eq, beq_iff_eq, bne_iff_ne, ne_eq, Bool.not_eq_true']); omega)) ?_; walk_say "m ite -")) | with_reducible ((with_reducible show InvEndN _ _ _ _ _ _ _); refine stop_here ?_)) | walk1 | (dsimp only; walk1) | (leave1; walk_say "STEP leave1"; try dsimp only) | fail "no step"))
           all_goals (rename Fr _ _ _ _ => nF; rename KtsTurn _ _ _ => nT; simp only [beq_self_eq_true]; exact hret.out _ _ ⟨_, nT, nF.keep⟩))
    · have hfm : (sh.length : Int).fmod 4 = 2 := by rw [Int.fmod_eq_emod_of_nonneg _ (by decide)]; omega
      have hpk : ((-(sh.length : Int)).fmod 4).fmod 3 = 2 := by rw [Int.fmod_eq_emod_of_nonneg _ (by decide), Int.fmod_eq_emod_of_nonneg _ (by decide)]; omega
      have e1 : dueE sh = .ok (byteArr (octsM sh)) := by unfold dueE; rw [hr]; rfl
      have e2 : bareE sh = .error (Str.ofString "Incorrect padding") := by unfold bareE; rw [hr]; rfl
      have e3 : fillB x sh = asciiOf (x ++ padS 2) := by unfold fillB; rw [hr]; rfl
      rw [e1] at df dg
      rw [e2] at dl ds
      rw [e3] at df dg
      clear e1 e2 e3
      (repeat' (first | (k_unfold; (try dsimp only)) | (first | with_reducible ((with_reducible show wpAny _ _ (call (Value.ref _) _ _) _ _ _); (k_here; ( ((with_reducible show wpAny _ _ (call (Value.ref 198) _ _) _ _ _); k_dflt (refine' told_use (by first | assumption | exact DeedB.out (by assumption) _) (by k_asm) (by assumption) (by assumption) (by assumption) (by assumption) (by assumption) (by assumption) (by k_asm) (by k_asm) (by k_asm) (by k_asm) (by exact rfl) (by exact rfl) (by exact rfl) (by exact rfl) (by exact Nat.le_of_ble_eq_true rfl) (by exact Nat.le_of_ble_eq_true rfl) ?_; k_whole; intro t9 h9 tk9 g9 T9 F9 N9 B9 X9 P9 D9 S9; (have L9 := standList S9 (by assumption)); (try k_lift B9); (try dsimp only [toldV]); (try k_sweep)))))) | with_reducible ((with_reducible show wpAny _ _ (call (Value.builtin "str.encode") _ _) _ _ _); (refine encode_call (by exact pad_chars (Hid.out (by assumption))) (by exact pad_size (by assumption) (by decide)) ?_; intro t9 k9; (try dsimp only))) | ((with_reducible show wpAny _ _ (call (Value.builtin "str.encode") _ _) _ _ _); (refine encode_call (by exact pad_chars (Hid.out (by assumption))) (by exact pad_size (by assumption) (by decide)) ?_; intro t9 k9; (try dsimp only))) | with_reducible ((with_reducible show wpAny _ _ (getMethod (Value.str _ _) _ _) _ _ _); (k_here; with_reducible refine getm_encode ?_)) | with_reducible ((with_reducible show ite _ _ _); first | (refine ite_neg (by (simp only [bne_self_eq_false, Bool.false_eq_true, not_false_eq_true]; done)) ?_; walk_say "m same -") | (refine ite_pos (by (simp only [beq_self_eq_true]; done)) ?_; walk_say "m same +")) | with_reducible ((with_reducible show wpAny _ _ (newTuple _) _ _ _); (k_here; (rename InElt _ _ => kE'); k_dflt (refine' newTuple_E (by k_asm) (by k_asm) kE' ?_ (by size_fits)); intro D' h' F' N' cE' l1; (try k_lt l1))) | with_reducible ((with_reducible show wpAny _ _ (call (Value.ref _) _ _) _ _ _); (k_here; ( ((with_reducible show wpAny _ _ (call (Value.ref 191) _ _) _ _ _); k_dflt (refine' octets_use (by k_asm) (by k_asm) (by k_asm) (by k_asm) (by k_asm) (by exact rfl) (by exact rfl) (by exact rfl) (by exact rfl) (by exact Nat.le_of_ble_eq_true rfl) (by exact Nat.le_of_ble_eq_true rfl) (by exact News.isList (by k_asm) (by k_mem)) (by assumption) (by assumption) (by assumption) ?_; k_whole; intro t9 h9 tk9 F9 N9; (try dsimp only); (try k_sweep)))))) | with_reducible ((with_reducible show _ ∧ PySem.Keeps _ _); refine stop_here ?_) | with_reducible ((with_reducible show CompPack _); refine stop_here ?_) | with_reducible ((with_reducible show wpAny _ _ (binaryOp Operator.Mult (Value.str _ _) (Value.int _ _)) _ _ _); refine stop_here ?_) | with_reducible ((with_reducible show wpAny _ _ (exec (Stmt.Assign (List.cons _ _) (Expr.ListComp _ _ _ _) _) _) _ _ _); refine stop_here ?_) | with_reducible ((with_reducible show ite _ _ _); first | (refine ite_pos (by ((try simp only [decide_eq_true_eq, beq_iff_eq, bne_iff_ne, ne_eq, Bool.not_eq_true']); omega)) ?_; walk_say "m ite +") | (refine ite_neg (by ((try simp only [decide_eq_true_eq, beq_iff_eq, bne_iff_ne, ne_eq, Bool.not_eq_true']); omega)) ?_; walk_say "m ite -")) | with_reducible ((with_reducible show InvEndN _ _ _ _ _ _ _); refine stop_here ?_)) | walk1 | (dsimp only; walk1) | (leave1; walk_say "STEP leave1"; try dsimp only) | fail "no step"))
      refine Stop.of ?_
      rw [hpk]
      refine SB.mul (mulOk_of 16 1048576 (by decide) (by decide) (by decide) (by decide) (by decide)) ?_
      intro t9 k9
      rw [show Txt.mul (Str.ofString "=") 2 = padS 2 from by decide +kernel]
      (repeat' (first | (k_unfold; (try dsimp only)) | (first | with_reducible ((with_reducible show wpAny _ _ (call (Value.ref _) _ _) _ _ _); (k_here; ( ((with_reducible show wpAny _ _ (call (Value.ref 198) _ _) _ _ _); k_dflt (refine' told_use (by first | assumption | exact DeedB.out (by assumption) _) (by k_asm) (by assumption) (by assumption) (by assumption) (by assumption) (by assumption) (by assumption) (by k_asm) (by k_asm) (by k_asm) (by k_asm) (by exact rfl) (by exact rfl) (by exact rfl) (by exact rfl) (by exact Nat.le_of_ble_eq_true rfl) (by exact Nat.le_of_ble_eq_true rfl) ?_; k_whole; intro t9 h9 tk9 g9 T9 F9 N9 B9 X9 P9 D9 S9; (have L9 := standList S9 (by assumption)); (try k_lift B9); (try dsimp only [toldV]); (try k_sweep)))))) | with_reducible ((with_reducible show wpAny _ _ (call (Value.builtin "str.encode") _ _) _ _ _); (refine encode_call (by exact pad_chars (Hid.out (by assumption))) (by exact pad_size (by assumption) (by decide)) ?_; intro t9 k9; (try dsimp only))) | ((with_reducible show wpAny _ _ (call (Value.builtin "str.encode") _ _) _ _ _); (refine encode_call (by exact pad_chars (Hid.out (by assumption))) (by exact pad_size (by assumption) (by decide)) ?_; intro t9 k9; (try dsimp only))) | with_reducible ((with_reducible show wpAny _ _ (getMethod (Value.str _ _) _ _) _ _ _); (k_here; with_reducible refine getm_encode ?_)) | with_reducible ((with_reducible show ite _ _ _); first | (refine ite_neg (by (simp only [bne_self_eq_false, Bool.false_eq_true, not_false_eq_true]; done)) ?_; walk_say "m same -") | (refine ite_pos (by (simp only [beq_self_eq_true]; done)) ?_; walk_say "m same +")) | with_reducible ((with_reducible show wpAny _ _ (newTuple _) _ _ _); (k_here; (rename InElt _ _ => kE'); k_dflt (refine' newTuple_E (by k_asm) (by k_asm) kE' ?_ (by size_fits)); intro D' h' F' N' cE' l1; (try k_lt l1))) | with_reducible ((with_reducible show wpAny _ _ (call (Value.ref _) _ _) _ _ _); (k_here; ( ((with_reducible show wpAny _ _ (call (Value.ref 191) _ _) _ _ _); k_dflt (refine' octets_use (by k_asm) (by k_asm) (by k_asm) (by k_asm) (by k_asm) (by exact rfl) (by exact rfl) (by exact rfl) (by exact rfl) (by exact Nat.le_of_ble_eq_true rfl) (by exact Nat.le_of_ble_eq_true rfl) (by exact News.isList (by k_asm) (by k_mem)) (by assumption) (by assumption) (by assumption) ?_; k_whole; intro t9 h9 tk9 F9 N9; (try dsimp only); (try k_sweep)))))) | with_reducible ((with_reducible show _ ∧ PySem.Keeps _ _); refine stop_here ?_) | with_reducible ((with_reducible show CompPack _); refine stop_here ?_) | with_reducible ((with_reducible show wpAny _ _ (binaryOp Operator.Mult (Value.str _ _) (Value.int _ _)) _ _ _); refine stop_here ?_) | with_reducible ((with_reducible show wpAny _ _ (exec (Stmt.Assign (List.cons _ _) (Expr.ListComp _ _ _ _) _) _) _ _ _); refine stop_here ?_) | with_reducible ((with_reducible show ite _ _ _); first | (refine ite_pos (by ((try simp only [decide_eq_true_eq, beq_iff_eq, bne_iff_ne, ne_eq, Bool.not_eq_true']); omega)) ?_; walk_say "m ite +") | (refine ite_neg (by ((try simp only [decide_eq_true_eq, beq_iff_eq, bne_iff_ne, ne_eq, Bool.not_eq_true']); omega)) ?_; walk_say "m ite -")) | with_reducible ((with_reducible show InvEndN _ _ _ _ _ _ _); refine stop_here ?_)) | walk1 | (dsimp only; walk1) | (leave1; walk_say "STEP leave1"; try dsimp only) | fail "no step"))
      all_goals first
        | (rename ((sh.length : Int) < (fs.length : Int)) => hlt9
           simp only [onlyE_lt hlt9] at ds dg ⊢
           try dsimp only
           (repeat' (first | (k_unfold; (try dsimp only)) | (first | with_reducible ((with_reducible show wpAny _ _ (call (Value.ref _) _ _) _ _ _); (k_here; ( ((with_reducible show wpAny _ _ (call (Value.ref 198) _ _) _ _ _); k_dflt (refine' told_use (by first | assumption | exact DeedB.out (by assumption) _) (by k_asm) (by assumption) (by assumption) (by assumption) (by assumption) (by assumption) (by assumption) (by k_asm) (by k_asm) (by k_asm) (by k_asm) (by exact rfl) (by exact rfl) (by exact rfl) (by exact rfl) (by exact Nat.le_of_ble_eq_true rfl) (by exact Nat.le_of_ble_eq_true rfl) ?_; k_whole; intro t9 h9 tk9 g9 T9 F9 N9 B9 X9 P9 D9 S9; (have L9 := standList S9 (by assumption)); (try k_lift B9); (try dsimp only [toldV]); (try k_sweep)))))) | with_reducible ((with_reducible show wpAny _ _ (call (Value.builtin "str.encode") _ _) _ _ _); (refine encode_call (by exact pad_chars (Hid.out (by assumption))) (by exact pad_size (by assumption) (by decide)) ?_; intro t9 k9; (try dsimp only))) | ((with_reducible show wpAny _ _ (call (Value.builtin "str.encode") _ _) _ _ _); (refine encode_call (by exact pad_chars (Hid.out (by assumption))) (by exact pad_size (by assumption) (by decide)) ?_; intro t9 k9; (try dsimp only))) | with_reducible ((with_reducible show wpAny _ _ (getMethod (Value.str _ _) _ _) _ _ _); (k_here; with_reducible refine getm_encode ?_)) | with_reducible ((with_reducible show ite _ _ _); first | (refine ite_neg (by (simp only [bne_self_eq_false, Bool.false_eq_true, not_false_eq_true]; done)) ?_; walk_say "m same -") | (refine ite_pos (by (simp only [beq_self_eq_true]; done)) ?_; walk_say "m same +")) | with_reducible ((with_reducible show wpAny _ _ (newTuple _) _ _ _); (k_here; (rename InElt _ _ => kE'); k_dflt (refine' newTuple_E (by k_asm) (by k_asm) kE' ?_ (by size_fits)); intro D' h' F' N' cE' l1; (try k_lt l1))) | with_reducible ((with_reducible show wpAny _ _ (call (Value.ref _) _ _) _ _ _); (k_here; ( ((with_reducible show wpAny _ _ (call (Value.ref 191) _ _) _ _ _); k_dflt (refine' octets_use (by k_asm) (by k_asm) (by k_asm) (by k_asm) (by k_asm) (by exact rfl) (by exact rfl) (by exact rfl) (by exact rfl) (by exact Nat.le_of_ble_eq_true rfl) (by exact Nat.le_of_ble_eq_true rfl) (by exact News.isList (by k_asm) (by k_mem)) (by assumption) (by assumption) (by assumption) ?_; k_whole; intro t9 h9 tk9 F9 N9; (try dsimp only); (try k_sweep)))))) | with_reducible ((with_reducible show _ ∧ PySem.Keeps _ _); refine stop_here ?_) | with_reducible ((with_reducible show CompPack _); refine stop_here ?_) | with_reducible ((with_reducible show wpAny _ _ (binaryOp Operator.Mult (Value.str _ _) (Value.int _ _)) _ _ _); refine stop_here ?_) | with_reducible ((with_reducible show wpAny _ _ (exec (Stmt.Assign (List.cons _ _) (Expr.ListComp _ _ _ _) _) _) _ _ _); refine stop_here ?_) | with_reducible ((with_reducible show ite _ _ _); first | (refine ite_pos (by ((try simp only [decide_eq_true_eq, beq_iff_eq, bne_iff_ne, ne_eq, Bool.not_eq_true']); omega)) ?_; walk_say "m ite +") | (refine ite_neg (by ((try simp only [decide_eq_true_eq, beq_iff_eq, bne_iff_ne, ne_eq, Bool.not_eq_true']); omega)) ?_; walk_say "m ite -")) | with_reducible ((with_reducible show InvEndN _ _ _ _ _ _ _); refine stop_here ?_)) | walk1 | (dsimp only; walk1) | (leave1; walk_say "STEP leave1"; try dsimp only) | fail "no step"))
           all_goals (rename Fr _ _ _ _ => nF; rename KtsTurn _ _ _ => nT; simp only [beq_self_eq_true]; exact hret.out _ _ ⟨_, nT, nF.keep⟩))
        | (rename (¬ (sh.length : Int) < (fs.length : Int)) => hlt9
           simp only [onlyE_ge hlt9] at ds dg ⊢
           try dsimp only
           (repeat' (first | (k_unfold; (try dsimp only)) | (first | with_reducible ((with_reducible show wpAny _ _ (call (Value.ref _) _ _) _ _ _); (k_here; ( ((with_reducible show wpAny _ _ (call (Value.ref 198) _ _) _ _ _); k_dflt (refine' told_use (by first | assumption | exact DeedB.out (by assumption) _) (by k_asm) (by assumption) (by assumption) (by assumption) (by assumption) (by assumption) (by assumption) (by k_asm) (by k_asm) (by k_asm) (by k_asm) (by exact rfl) (by exact rfl) (by exact rfl) (by exact rfl) (by exact Nat.le_of_ble_eq_true rfl) (by exact Nat.le_of_ble_eq_true rfl) ?_; k_whole; intro t9 h9 tk9 g9 T9 F9 N9 B9 X9 P9 D9 S9; (have L9 := standList S9 (by assumption)); (try k_lift B9); (try dsimp only [toldV]); (try k_sweep)))))) | with_reducible ((with_reducible show wpAny _ _ (call (Value.builtin "str.encode") _ _) _ _ _); (refine encode_call (by exact pad_chars (Hid.out (by assumption))) (by exact pad_size (by assumption) (by decide)) ?_; intro t9 k9; (try dsimp only))) | ((with_reducible show wpAny _ _ (call (Value.builtin "str.encode") _ _) _ _ _); (refine encode_call (by exact pad_chars (Hid.out (by assumption))) (by exact pad_size (by assumption) (by decide)) ?_; intro t9 k9; (try dsimp only))) | with_reducible ((with_reducible show wpAny _ _ (getMethod (Value.str _ _) _ _) _ _ _); (k_here; with_reducible refine getm_encode ?_)) | with_reducible ((with_reducible show ite _ _ _); first | (refine ite_neg (by (simp only [bne_self_eq_false, Bool.false_eq_true, not_false_eq_true]; done)) ?_; walk_say "m same -") | (refine ite_pos (by (simp only [beq_self_eq_true]; done)) ?_; walk_say "m same +")) | with_reducible ((with_reducible show wpAny _ _ (newTuple _) _ _ _); (k_here; (rename InElt _ _ => kE'); k_dflt (refine' newTuple_E (by k_asm) (by k_asm) kE' ?_ (by size_fits)); intro D' h' F' N' cE' l1; (try k_lt l1))) | with_reducible ((with_reducible show wpAny _ _ (call (Value.ref _) _ _) _ _ _); (k_here; ( ((with_reducible show wpAny _ _ (call (Value.ref 191) _ _) _ _ _); k_dflt (refine' octets_use (by k_asm) (by k_asm) (by k_asm) (by k_asm) (by k_asm) (by exact rfl) (by exact rfl) (by exact rfl) (by exact rfl) (by exact Nat.le_of_ble_eq_true rfl) (by exact Nat.le_of_ble_eq_true rfl) (by exact News.isList (by k_asm) (by k_mem)) (by assumption) (by assumption) (by assumption) ?_; k_whole; intro t9 h9 tk9 F9 N9; (try dsimp only); (try k_sweep)))))) | with_reducible ((with_reducible show _ ∧ PySem.Keeps _ _); refine stop_here ?_) | with_reducible ((with_reducible show CompPack _); refine stop_here ?_) | with_reducible ((with_reducible show wpAny _ _ (binaryOp Operator.Mult (Value.str _ _) (Value.int _ _)) _ _ _); refine stop_here ?_) | with_reducible ((with_reducible show wpAny _ _ (exec (Stmt.Assign (List.cons _ _) (Expr.ListComp _ _ _ _) _) _) _ _ _); refine stop_here ?_) | with_reducible ((with_reducible show ite _ _ _); first | (refine ite_pos (by ((try simp only [decide_eq_true_eq, beq_iff_eq, bne_iff_ne, ne_eq, Bool.not_eq_true']); omega)) ?_; walk_say "m ite +") | (refine ite_neg (by ((try simp only [decide_eq_true_eq, beq_iff_eq, bne_iff_ne, ne_eq, Bool.not_eq_true']); omega)) ?_; walk_say "m ite -")) | with_reducible ((with_reducible show InvEndN _ _ _ _ _ _ _); refine stop_here ?_)) | walk1 | (dsimp only; walk1) | (leave1; walk_say "STEP leave1"; try dsimp only) | fail "no step"))
           all_goals (rename Fr _ _ _ _ => nF; rename KtsTurn _ _ _ => nT; simp only [beq_self_eq_true]; exact hret.out _ _ ⟨_, nT, nF.keep⟩))
    · have hfm : (sh.length : Int).fmod 4 = 3 := by rw [Int.fmod_eq_emod_of_nonneg _ (by decide)]; omega
      have hpk : ((-(sh.length : Int)).fmod 4).fmod 3 = 1 := by rw [Int.fmod_eq_emod_of_nonneg _ (by decide), Int.fmod_eq_emod_of_nonneg _ (by decide)]; omega
      have e1 : dueE sh = .ok (byteArr (octsM sh)) := by unfold dueE; rw [hr]; rfl
      have e2 : bareE sh = .error (Str.ofString "Incorrect padding") := by unfold bareE; rw [hr]; rfl
      have e3 : fillB x sh = asciiOf (x ++ padS 1) := by unfold fillB; rw [hr]; rfl
      rw [e1] at df dg
      rw [e2] at dl ds
      rw [e3] at df dg
      clear e1 e2 e3
      (repeat' (first | (k_unfold; (try dsimp only)) | (first | with_reducible ((with_reducible show wpAny _ _ (call (Value.ref _) _ _) _ _ _); (k_here; ( ((with_reducible show wpAny _ _ (call (Value.ref 198) _ _) _ _ _); k_dflt (refine' told_use (by first | assumption | exact DeedB.out (by assumption) _) (by k_asm) (by assumption) (by assumption) (by assumption) (by assumption) (by assumption) (by assumption) (by k_asm) (by k_asm) (by k_asm) (by k_asm) (by exact rfl) (by exact rfl) (by exact rfl) (by exact rfl) (by exact Nat.le_of_ble_eq_true rfl) (by exact Nat.le_of_ble_eq_true rfl) ?_; k_whole; intro t9 h9 tk9 g9 T9 F9 N9 B9 X9 P9 D9 S9; (have L9 := standList S9 (by assumption)); (try k_lift B9); (try dsimp only [toldV]); (try k_sweep)))))) | with_reducible ((with_reducible show wpAny _ _ (call (Value.builtin "str.encode") _ _) _ _ _); (refine encode_call (by exact pad_chars (Hid.out (by assumption))) (by exact pad_size (by assumption) (by decide)) ?_; intro t9 k9; (try dsimp only))) | ((with_reducible show wpAny _ _ (call (Value.builtin "str.encode") _ _) _ _ _); (refine encode_call (by exact pad_chars (Hid.out (by assumption))) (by exact pad_size (by assumption) (by decide)) ?_; intro t9 k9; (try dsimp only))) | with_reducible ((with_reducible show wpAny _ _ (getMethod (Value.str _ _) _ _) _ _ _); (k_here; with_reducible refine getm_encode ?_)) | with_reducible ((with_reducible show ite _ _ _); first | (refine ite_neg (by (simp only [bne_self_eq_false, Bool.false_eq_true, not_false_eq_true]; done)) ?_; walk_say "m same -") | (refine ite_pos (by (simp only [beq_self_eq_true]; done)) ?_; walk_say "m same +")) | with_reducible ((with_reducible show wpAny _ _ (newTuple _) _ _ _); (k_here; (rename InElt _ _ => kE'); k_dflt (refine' newTuple_E (by k_asm) (by k_asm) kE' ?_ (by size_fits)); intro D' h' F' N' cE' l1; (try k_lt l1))) | with_reducible ((with_reducible show wpAny _ _ (call (Value.ref _) _ _) _ _ _); (k_here; ( ((with_reducible show wpAny _ _ (call (Value.ref 191) _ _) _ _ _); k_dflt (refine' octets_use (by k_asm) (by k_asm) (by k_asm) (by k_asm) (by k_asm) (by exact rfl) (by exact rfl) (by exact rfl) (by exact rfl) (by exact Nat.le_of_ble_eq_true rfl) (by exact Nat.le_of_ble_eq_true rfl) (by exact News.isList (by k_asm) (by k_mem)) (by assumption) (by assumption) (by assumption) ?_; k_whole; intro t9 h9 tk9 F9 N9; (try dsimp only); (try k_sweep)))))) | with_reducible ((with_reducible show _ ∧ PySem.Keeps _ _); refine stop_here ?_) | with_reducible ((with_reducible show CompPack _); refine stop_here ?_) | with_reducible ((with_reducible show wpAny _ _ (binaryOp Operator.Mult (Value.str _ _) (Value.int _ _)) _ _ _); refine stop_here ?_) | with_reducible ((with_reducible show wpAny _ _ (exec (Stmt.Assign (List.cons _ _) (Expr.ListComp _ _ _ _) _) _) _ _ _); refine stop_here ?_) | with_reducible ((with_reducible show ite _ _ _); first | (refine ite_pos (by ((try simp only [decide_eq_true_eq, beq_iff_eq, bne_iff_ne, ne_eq, Bool.not_eq_true']); omega)) ?_; walk_say "m ite +") | (refine ite_neg (by ((try simp only [decide_eq_true_eq, beq_iff_eq, bne_iff_ne, ne_eq, Bool.not_eq_true']); omega)) ?_; walk_say "m ite -")) | with_reducible ((with_reducible show InvEndN _ _ _ _ _ _ _); refine stop_here ?_)) | walk1 | (dsimp only; walk1) | (leave1; walk_say "STEP leave1"; try dsimp only) | fail "no step"))
      refine Stop.of ?_
      rw [hpk]
      refine SB.mul (mulOk_of 16 1048576 (by decide) (by decide) (by decide) (by decide) (by decide)) ?_
      intro t9 k9
      rw [show Txt.mul (Str.ofString "=") 1 = padS 1 from by decide +kernel]
      (repeat' (first | (k_unfold; (try dsimp only)) | (first | with_reducible ((with_reducible show wpAny _ _ (call (Value.ref _) _ _) _ _ _); (k_here; ( ((with_reducible show wpAny _ _ (call (Value.ref 198) _ _) _ _ _); k_dflt (refine' told_use (by first | assumption | exact DeedB.out (by assumption) _) (by k_asm) (by assumption) (by assumption) (by assumption) (by assumption) (by assumption) (by assumption) (by k_asm) (by k_asm) (by k_asm) (by k_asm) (by exact rfl) (by exact rfl) (by exact rfl) (by exact rfl) (by exact Nat.le_of_ble_eq_true rfl) (by exact Nat.le_of_ble_eq_true rfl) ?_; k_whole; intro t9 h9 tk9 g9 T9 F9 N9 B9 X9 P9 D9 S9; (have L9 := standList S9 (by assumption)); (try k_lift B9); (try dsimp only [toldV]); (try k_sweep)))))) | with_reducible ((with_reducible show wpAny _ _ (call (Value.builtin "str.encode") _ _) _ _ _); (refine encode_call (by exact pad_chars (Hid.out (by assumption))) (by exact pad_size (by assumption) (by decide)) ?_; intro t9 k9; (try dsimp only))) | ((with_reducible show wpAny _ _ (call (Value.builtin "str.encode") _ _) _ _ _); (refine encode_call (by exact pad_chars (Hid.out (by assumption))) (by exact pad_size (by assumption) (by decide)) ?_; intro t9 k9; (try dsimp only))) | with_reducible ((with_reducible show wpAny _ _ (getMethod (Value.str _ _) _ _) _ _ _); (k_here; with_reducible refine getm_encode ?_)) | with_reducible ((with_reducible show ite _ _ _); first | (refine ite_neg (by (simp only [bne_self_eq_false, Bool.false_eq_true, not_false_eq_true]; done)) ?_; walk_say "m same -") | (refine ite_pos (by (simp only [beq_self_eq_true]; done)) ?_; walk_say "m same +")) | with_reducible ((with_reducible show wpAny _ _ (newTuple _) _ _ _); (k_here; (rename InElt _ _ => kE'); k_dflt (refine' newTuple_E (by k_asm) (by k_asm) kE' ?_ (by size_fits)); intro D' h' F' N' cE' l1; (try k_lt l1))) | with_reducible ((with_reducible show wpAny _ _ (call (Value.ref _) _ _) _ _ _); (k_here; ( ((with_reducible show wpAny _ _ (call (Value.ref 191) _ _) _ _ _); k_dflt (refine' octets_use (by k_asm) (by k_asm) (by k_asm) (by k_asm) (by k_asm) (by exact rfl) (by exact rfl) (by exact rfl) (by exact rfl) (by exact Nat.le_of_ble_eq_true rfl) (by exact Nat.le_of_ble_eq_true rfl) (by exact News.isList (by k_asm) (by k_mem)) (by assumption) (by assumption) (by assumption) ?_; k_whole; intro t9 h9 tk9 F9 N9; (try dsimp only); (try k_sweep)))))) | with_reducible ((with_reducible show _ ∧ PySem.Keeps _ _); refine stop_here ?_) | with_reducible ((with_reducible show CompPack _); refine stop_here ?_) | with_reducible ((with_reducible show wpAny _ _ (binaryOp Operator.Mult (Value.str _ _) (Value.int _ _)) _ _ _); refine stop_here ?_) | with_reducible ((with_reducible show wpAny _ _ (exec (Stmt.Assign (List.cons _ _) (Expr.ListComp _ _ _ _) _) _) _ _ _); refine stop_here ?_) | with_reducible ((with_reducible show ite _ _ _); first | (refine ite_pos (by ((try simp only [decide_eq_true_eq, beq_iff_eq, bne_iff_ne, ne_eq, Bool.not_eq_true']); omega)) ?_; walk_say "m ite +") | (refine ite_neg (by ((try simp only [decide_eq_true_eq, beq_iff_eq, bne_iff_ne, ne_eq, Bool.not_eq_true']); omega)) ?_; walk_say "m ite -")) | with_reducible ((with_reducible show InvEndN _ _ _ _ _ _ _); refine stop_here ?_)) | walk1 | (dsimp only; walk1) | (leave1; walk_say "STEP leave1"; try dsimp only) | fail "no step"))
      all_goals first
        | (rename ((sh.length : Int) < (fs.length : Int)) => hlt9
           simp only [onlyE_lt hlt9] at ds dg ⊢
           try dsimp only
           (repeat' (first | (k_unfold; (try dsimp only)) | (first | with_reducible ((with_reducible show wpAny _ _ (call (Value.ref _) _ _) _ _ _); (k_here; ( ((with_reducible show wpAny _ _ (call (Value.ref 198) _ _) _ _ _); k_dflt (refine' told_use (by first | assumption | exact DeedB.out (by assumption) _) (by k_asm) (by assumption) (by assumption) (by assumption) (by assumption) (by assumption) (by assumption) (by k_asm) (by k_asm) (by k_asm) (by k_asm) (by exact rfl) (by exact rfl) (by exact rfl) (by exact rfl) (by exact Nat.le_of_ble_eq_true rfl) (by exact Nat.le_of_ble_eq_true rfl) ?_; k_whole; intro t9 h9 tk9 g9 T9 F9 N9 B9 X9 P9 D9 S9; (have L9 := standList S9 (by assumption)); (try k_lift B9); (try dsimp only [toldV]); (try k_sweep)))))) | with_reducible ((with_reducible show wpAny _ _ (call (Value.builtin "str.encode") _ _) _ _ _); (refine encode_call (by exact pad_chars (Hid.out (by assumption))) (by exact pad_size (by assumption) (by decide)) ?_; intro t9 k9; (try dsimp only))) | ((with_reducible show wpAny _ _ (call (Value.builtin "str.encode") _ _) _ _ _); (refine encode_call (by exact pad_chars (Hid.out (by assumption))) (by exact pad_size (by assumption) (by decide)) ?_; intro t9 k9; (try dsimp only))) | with_reducible ((with_reducible show wpAny _ _ (getMethod (Value.str _ _) _ _) _ _ _); (k_here; with_reducible refine getm_encode ?_)) | with_reducible ((with_reducible show ite _ _ _); first | (refine ite_neg (by (simp only [bne_self_eq_false, Bool.false_eq_true, not_false_eq_true]; done)) ?_; walk_say "m same -") | (refine ite_pos (by (simp only [beq_self_eq_true]; done)) ?_; walk_say "m same +")) | with_reducible ((with_reducible show wpAny _ _ (newTuple _) _ _ _); (k_here; (rename InElt _ _ => kE'); k_dflt (refine' newTuple_E (by k_asm) (by k_asm) kE' ?_ (by size_fits)); intro D' h' F' N' cE' l1; (try k_lt l1))) | with_reducible ((with_reducible show wpAny _ _ (call (Value.ref _) _ _) _ _ _); (k_here; ( ((with_reducible show wpAny _ _ (call (Value.ref 191) _ _) _ _ _); k_dflt (refine' octets_use (by k_asm) (by k_asm) (by k_asm) (by k_asm) (by k_asm) (by exact rfl) (by exact rfl) (by exact rfl) (by exact rfl) (by exact Nat.le_of_ble_eq_true rfl) (by exact Nat.le_of_ble_eq_true rfl) (by exact News.isList (by k_asm) (by k_mem)) (by assumption) (by assumption) (by assumption) ?_; k_whole; intro t9 h9 tk9 F9 N9; (try dsimp only); (try k_sweep)))))) | with_reducible ((with_reducible show _ ∧ PySem.Keeps _ _); refine stop_here ?_) | with_reducible ((with_reducible show CompPack _); refine stop_here ?_) | with_reducible ((with_reducible show wpAny _ _ (binaryOp Operator.Mult (Value.str _ _) (Value.int _ _)) _ _ _); refine stop_here ?_) | with_reducible ((with_reducible show wpAny _ _ (exec (Stmt.Assign (List.cons _ _) (Expr.ListComp _ _ _ _) _) _) _ _ _); refine stop_here ?_) | with_reducible ((with_reducible show ite _ _ _); first | (refine ite_pos (by ((try simp only [decide_eq_true_eq, beq_iff_eq, bne_iff_ne, ne_eq, Bool.not_eq_true']); omega)) ?_; walk_say "m ite +") | (refine ite_neg (by ((try simp only [decide_eq_true_eq, beq_iff_eq, bne_iff_ne, ne_eq, Bool.not_eq_true']); omega)) ?_; walk_say "m ite -")) | with_reducible ((with_reducible show InvEndN _ _ _ _ _ _ _); refine stop_here ?_)) | walk1 | (dsimp only; walk1) | (leave1; walk_say "STEP leave1"; try dsimp only) | fail "no step"))
           all_goals (rename Fr _ _ _ _ => nF; rename KtsTurn _ _ _ => nT; simp only [beq_self_eq_true]; exact hret.out _ _ ⟨_, nT, nF.keep⟩))
        | (rename (¬ (sh.length : Int) < (fs.length : Int)) => hlt9
           simp only [onlyE_ge hlt9] at ds dg ⊢
           try dsimp only
           (repeat' (first | (k_unfold; (try dsimp only)) | (first | with_reducible ((with_reducible show wpAny _ _ (call (Value.ref _) _ _) _ _ _); (k_here; ( ((with_reducible show wpAny _ _ (call (Value.ref 198) _ _) _ _ _); k_dflt (refine' told_use (by first | assumption | exact DeedB.out (by assumption) _) (by k_asm) (by assumption) (by assumption) (by assumption) (by assumption) (by assumption) (by assumption) (by k_asm) (by k_asm) (by k_asm) (by k_asm) (by exact rfl) (by exact rfl) (by exact rfl) (by exact rfl) (by exact Nat.le_of_ble_eq_true rfl) (by exact Nat.le_of_ble_eq_true rfl) ?_; k_whole; intro t9 h9 tk9 g9 T9 F9 N9 B9 X9 P9 D9 S9; (have L9 := standList S9 (by assumption)); (try k_lift B9); (try dsimp only [toldV]); (try k_sweep)))))) | with_reducible ((with_reducible show wpAny _ _ (call (Value.builtin "str.encode") _ _) _ _ _); (refine encode_call (by exact pad_chars (Hid.out (by assumption))) (by exact pad_size (by assumption) (by decide)) ?_; intro t9 k9; (try dsimp only))) | ((with_reducible show wpAny _ _ (call (Value.builtin "str.encode") _ _) _ _ _); (refine encode_call (by exact pad_chars (Hid.out (by assumption))) (by exact pad_size (by assumption) (by decide)) ?_; intro t9 k9; (try dsimp only))) | with_reducible ((with_reducible show wpAny _ _ (getMethod (Value.str _ _) _ _) _ _ _); (k_here; with_reducible refine getm_encode ?_)) | with_reducible ((with_reducible show ite _ _ _); first | (refine ite_neg (by (simp only [bne_self_eq_false, Bool.false_eq_true, not_false_eq_true]; done)) ?_; walk_say "m same -") | (refine ite_pos (by (simp only [beq_self_eq_true]; done)) ?_; walk_say "m same +")) | with_reducible ((with_reducible show wpAny _ _ (newTuple _) _ _ _); (k_here; (rename InElt _ _ => kE'); k_dflt (refine' newTuple_E (by k_asm) (by k_asm) kE' ?_ (by size_fits)); intro D' h' F' N' cE' l1; (try k_lt l1))) | with_reducible ((with_reducible show wpAny _ _ (call (Value.ref _) _ _) _ _ _); (k_here; ( ((with_reducible show wpAny _ _ (call (Value.ref 191) _ _) _ _ _); k_dflt (refine' octets_use (by k_asm) (by k_asm) (by k_asm) (by k_asm) (by k_asm) (by exact rfl) (by exact rfl) (by exact rfl) (by exact rfl) (by exact Nat.le_of_ble_eq_true rfl) (by exact Nat.le_of_ble_eq_true rfl) (by exact News.isList (by k_asm) (by k_mem)) (by assumption) (by assumption) (by assumption) ?_; k_whole; intro t9 h9 tk9 F9 N9; (try dsimp only); (try k_sweep)))))) | with_reducible ((with_reducible show _ ∧ PySem.Keeps _ _); refine stop_here ?_) | with_reducible ((with_reducible show CompPack _); refine stop_here ?_) | with_reducible ((with_reducible show wpAny _ _ (binaryOp Operator.Mult (Value.str _ _) (Value.int _ _)) _ _ _); refine stop_here ?_) | with_reducible ((with_reducible show wpAny _ _ (exec (Stmt.Assign (List.cons _ _) (Expr.ListComp _ _ _ _) _) _) _ _ _); refine stop_here ?_) | with_reducible ((with_reducible show ite _ _ _); first | (refine ite_pos (by ((try simp only [decide_eq_true_eq, beq_iff_eq, bne_iff_ne, ne_eq, Bool.not_eq_true']); omega)) ?_; walk_say "m ite +") | (refine ite_neg (by ((try simp only [decide_eq_true_eq, beq_iff_eq, bne_iff_ne, ne_eq, Bool.not_eq_true']); omega)) ?_; walk_say "m ite -")) | with_reducible ((with_reducible show InvEndN _ _ _ _ _ _ _); refine stop_here ?_)) | walk1 | (dsimp only; walk1) | (leave1; walk_say "STEP leave1"; try dsimp only) | fail "no step"))
           all_goals (rename Fr _ _ _ _ => nF; rename KtsTurn _ _ _ => nT; simp only [beq_self_eq_true]; exact hret.out _ _ ⟨_, nT, nF.keep⟩))
end
section
/-! a comprehension with two clauses, its element the inner name -/
abbrev nestE (x y : Str) (px py pe : Pos) (iter0 iter1 : Expr) (scope : Scope) (pos : Pos) : Expr := .ListComp (.Name y pe) [⟨.Name x px, iter0, [], 0⟩, ⟨.Name y py, iter1, [], 0⟩] scope pos
theorem nest_turn0 (x y : Str) (px py pe : Pos) (iter0 iter1 : Expr) (scope : Scope) (pos : Pos) (it acc : Value) (env : Env) :
    compTurn (nestE x y px py pe iter0 iter1 scope pos) 0 it acc env = (standAt iter0.pos >>= fun _ => pyNext it >>= fun r => match r with
      | none => pure (.done .next)
      | some v => letOwnedTupleGo (.Name x px) it v >>= fun _ => assign (.Name x px) env v >>= fun _ =>
        eval iter1 env >>= fun x' => standAt iter1.pos >>= fun _ => foldedSetIterable iter1 env x' >>= fun x'' => holding [x''] (pyIter x'') >>= fun it' =>
          runOwn (.compStart (nestE x y px py pe iter0 iter1 scope pos) 1 it' acc env) env >>= fun _ =>
          again (.compLoop (nestE x y px py pe iter0 iter1 scope pos) 0 it acc env)) := by rfl
theorem nest_turn1 (x y : Str) (px py pe : Pos) (iter0 iter1 : Expr) (scope : Scope) (pos : Pos) (it acc : Value) (env : Env) :
    compTurn (nestE x y px py pe iter0 iter1 scope pos) 1 it acc env = (standAt iter1.pos >>= fun _ => pyNext it >>= fun r => match r with
      | none => pure (.done .next)
      | some v => letOwnedTupleGo (.Name y py) it v >>= fun _ => assign (.Name y py) env v >>= fun _ =>
        (eval (.Name y pe) env >>= fun x' => call (.builtin "list.append") [acc, x'] >>= fun _ => pure ()) >>= fun _ =>
          again (.compLoop (nestE x y px py pe iter0 iter1 scope pos) 1 it acc env)) := by rfl
section
variable {prog : Program} {w : World} {A : Around} {R : Result → Shared → Prop} {s : Shared} {x y : Str} {px py pe : Pos} {iter0 iter1 : Expr} {scope : Scope} {pos : Pos} {it acc : Value} {env : Env}
theorem nest_start (d : Nat) (hd : d = 0 ∨ d = 1)
    (h0 : codeAny (model prog w) A (.compLoop (nestE x y px py pe iter0 iter1 scope pos) d it acc env) R s)
    (h : wpAny (model prog w) A (pyIter it) (fun it' s' => codeAny (model prog w) A (.compLoop (nestE x y px py pe iter0 iter1 scope pos) d it' acc env) R s') (notedBy (model prog w) A env fun x s' => R (.error x) s') s) :
    codeAny (model prog w) A (.compStart (nestE x y px py pe iter0 iter1 scope pos) d it acc env) R s := by
  rcases hd with rfl | rfl
  · exact codeAny_compStart_list h0 h
  · refine codeAny_of_tree ?_
    show wpAny _ _ ((compStart (nestE x y px py pe iter0 iter1 scope pos) 1 it acc env).onRaise (fun x => do noteFrame x env; standAt theWindowsPlace)) _ _ s
    refine wpAny_notedAt ?_
    unfold compStart
    show wpAny _ _ (ask >>= _) _ _ s
    refine wpAny_bind (wpAny_askSetting (wpAny_ite ?_))
    split
    · first
        | exact wpAny_bind (wpAny_pure (wpAny_pure (And.intro rfl h0)))
        | exact wpAny_pure (And.intro rfl h0)
    · first
        | exact wpAny_bind (wpAny_rule (wpAny_bind (wpAny_standAt (wpAny_bind (wpAny_mono h (fun it' s' h' => wpAny_pure (And.intro rfl h')) fun _ _ x => x)))))
        | (refine wpAny_bind (wpAny_rule ?_); show wpAny _ _ (standAt iter1.pos >>= _) _ _ s; exact wpAny_bind (wpAny_standAt (wpAny_bind (wpAny_mono h (fun it' s' h' => wpAny_pure (And.intro rfl h')) fun _ _ x => x))))

/-- the inner clause: it appends what its list holds -/
theorem nest_inner {I ax D : Addr} {items : Array Value} {ys : Array Value} {m : Str → Option Value} (hh : A.handled = none) (hy : env.kindOf y = some .local) (hk : env.scope.kind = .function)
    (hDI : D ≠ I) (hDC : D ≠ env.locals) (hIC : I ≠ env.locals) (haI : ax ≠ I) (haC : ax ≠ env.locals) (haD : ax ≠ D)
    (hit : s.heap.IsListIter I ax 0) (hl : s.heap.IsList ax items) (hacc : s.heap.PlainList D ys) (hn : s.heap.Ns env.locals m) (hdb : (y == ("__debug__" : Str)) = false) (hsz : ys.size + items.size ≤ 1000)
    (hR : ∀ h' tk m', h'.Ns env.locals m' → h'.PlainList D (ys ++ items) → (∀ b o, b ≠ env.locals → b ≠ I → b ≠ D → s.heap.get? b = some o → h'.get? b = some o) → R (.ok .next) { s with heap := h', toks := tk }) :
    codeAny (model prog w) A (.compLoop (nestE x y px py pe iter0 iter1 scope pos) 1 (.ref I) (.ref D) env) R s := by
  refine codeAny_loop rfl
    (fun k s' => ∃ h' tk m' i, s' = { s with heap := h', toks := tk } ∧ h'.IsListIter I ax i ∧ h'.IsList ax items ∧ h'.PlainList D (ys ++ items.extract 0 i) ∧ h'.Ns env.locals m' ∧ i ≤ items.size ∧ k = items.size + 1 - i ∧
      ∀ b o, b ≠ env.locals → b ≠ I → b ≠ D → s.heap.get? b = some o → h'.get? b = some o) ?_ (items.size + 1)
    ⟨s.heap, s.toks, m, 0, rfl, hit, hl, by simpa using hacc, hn, Nat.zero_le _, rfl, fun _ _ _ _ _ e => e⟩
  rintro k s' ⟨H, tk, m', i, rfl, hit', hl', hacc', hn', hi, rfl, hkp⟩
  show wpAny _ A ((compTurn (nestE x y px py pe iter0 iter1 scope pos) 1 (.ref I) (.ref D) env).onRaise (fun x => do noteFrame x env; theTreesLotGoes x)) _ _ _
  refine wpAny_noted ?_
  rw [nest_turn1]
  refine wpAny_bind (wpAny_standAt (wpAny_bind ?_))
  cases hv : items[i]? with
  | none =>
    have hsz2 : items.size ≤ i := by simpa using hv
    refine wpAny_pyNext_list_end hh hit' hl' hv fun h₁ he₁ => wpAny_pure ?_
    refine hR h₁ tk m' (hn'.extBut he₁ (Ne.symm hIC)) ?_ fun b o hbC hbI hbD e => he₁ b o hbI (hkp b o hbC hbI hbD e)
    have e : items.extract 0 i = items := by
      have : i = items.size := by omega
      subst this; simp
    rw [e] at hacc'
    exact hacc'.extBut he₁ hDI
  | some v =>
    have hlt : i < items.size := (Array.getElem?_eq_some_iff.mp hv).1
    refine wpAny_pyNext_list_item hit' hl' hv fun h₁ hit₁ hs₁ => ?_
    refine wpAny_bind (wpAny_of_eq (by rfl) ?_)
    refine wpAny_bind (wpAny_assign_Name (wpAny_storeName_local hy (hn'.sameBut hs₁ (Ne.symm hIC)) (fun h₂ hn₂ hs₂ => ?_) (by rw [hk]; rfl)))
    refine wpAny_bind (wpAny_bind (wpAny_Name (wpAny_loadName_local (v := v) hk hy hn₂ (by simp) ?_) hdb))
    have hacc₂ : h₂.PlainList D (ys ++ items.extract 0 i) := (hacc'.extBut hs₁.extBut hDI).extBut hs₂.extBut hDC
    refine wpAny_bind (wpAny_list_append_plain (hsz := by rw [sizeLine_eq]; simp; omega) hacc₂ fun h₅ hl₅ hs₅ => ?_)
    refine wpAny_pure (wpAny_pure ⟨rfl, items.size + 1 - (i + 1), by omega, h₅, _, _, i + 1, rfl, ((hit₁.extBut hs₂.extBut hIC).extBut hs₅.extBut (Ne.symm hDI)), (((hl'.extBut hs₁.extBut haI).extBut hs₂.extBut haC).extBut hs₅.extBut haD), ?_, hn₂.sameBut hs₅ (Ne.symm hDC), hlt, rfl, fun b o hbC hbI hbD e => hs₅.extBut b o hbD (hs₂.extBut b o hbC (hs₁.extBut b o hbI (hkp b o hbC hbI hbD e)))⟩)
    have e : (ys ++ items.extract 0 i).push v = ys ++ items.extract 0 (i + 1) := by
      obtain ⟨_, hvv⟩ := Array.getElem?_eq_some_iff.mp hv
      subst hvv
      rw [← Array.append_push]
      congr 1
      rw [Array.push_extract_getElem (by omega)]
      simp
    rw [e] at hl₅
    exact hl₅

/-- the values come in pieces, one a turn -/
inductive Pieces (G : Nat → List Value → Prop) : Nat → List Value → Prop
  | zero : Pieces G 0 []
  | succ {i : Nat} {ys vs : List Value} : Pieces G i ys → G i vs → Pieces G (i + 1) (ys ++ vs)
theorem Pieces.len {G : Nat → List Value → Prop} (hG : ∀ i vs, G i vs → vs.length ≤ 16) : ∀ {i : Nat} {ys : List Value}, Pieces G i ys → ys.length ≤ 16 * i
  | _, _, .zero => Nat.le_refl _
  | _, _, .succ p g => by
    have := Pieces.len hG p
    have := hG _ _ g
    rw [List.length_append]; omega
theorem nest_outer {I ax D : Addr} {ms : List Value} {g : Heap} {m : Str → Option Value} (G : Nat → List Value → Prop) (hh : A.handled = none) (hx : env.kindOf x = some .local) (hy : env.kindOf y = some .local) (hk : env.scope.kind = .function)
    (hDI : D ≠ I) (hDC : D ≠ env.locals) (hIC : I ≠ env.locals) (haI : ax ≠ I) (haC : ax ≠ env.locals) (haD : ax ≠ D)
    (hit : s.heap.IsListIter I ax 0) (hl : s.heap.IsList ax ms.toArray) (hacc : s.heap.PlainList D #[]) (hn : s.heap.Ns env.locals m) (hdb : (y == ("__debug__" : Str)) = false) (hms : ms.length ≤ 16) (hG : ∀ i vs, G i vs → vs.length ≤ 16)
    (hg : ∀ b o, g.get? b = some o → b ≠ env.locals ∧ b ≠ I ∧ b ≠ D ∧ s.heap.get? b = some o)
    (hfold : ∀ v, foldedSetIterable iter1 env v = pure v)
    (inner : ∀ i v s' m', ms[i]? = some v → s'.heap.Ns env.locals m' → m' x = some v → Keeps g s'.heap →
      wpAny (model prog w) A (eval iter1 env) (fun r s'' => ∃ a vs n h' tk, r = .ref a ∧ s'' = { s' with heap := h', toks := tk } ∧ Keeps s'.heap h' ∧ Made s'.heap h' a vs n ∧ G i vs) (fun _ _ => False) s')
    (hR : ∀ h' tk m' ys, h'.Ns env.locals m' → h'.PlainList D ys.toArray → Pieces G ms.length ys → (∀ b o, b ≠ env.locals → b ≠ I → b ≠ D → s.heap.get? b = some o → h'.get? b = some o) → R (.ok .next) { s with heap := h', toks := tk }) :
    codeAny (model prog w) A (.compLoop (nestE x y px py pe iter0 iter1 scope pos) 0 (.ref I) (.ref D) env) R s := by
  refine codeAny_loop rfl
    (fun k s' => ∃ h' tk m' i ys, s' = { s with heap := h', toks := tk } ∧ h'.IsListIter I ax i ∧ h'.IsList ax ms.toArray ∧ h'.PlainList D ys.toArray ∧ h'.Ns env.locals m' ∧ Pieces G i ys ∧ i ≤ ms.length ∧ k = ms.length + 1 - i ∧
      ∀ b o, b ≠ env.locals → b ≠ I → b ≠ D → s.heap.get? b = some o → h'.get? b = some o) ?_ (ms.length + 1)
    ⟨s.heap, s.toks, m, 0, [], rfl, hit, hl, hacc, hn, .zero, Nat.zero_le _, rfl, fun _ _ _ _ _ e => e⟩
  rintro k s' ⟨H, tk, m', i, ys, rfl, hit', hl', hacc', hn', hP, hi, rfl, hkp⟩
  show wpAny _ A ((compTurn (nestE x y px py pe iter0 iter1 scope pos) 0 (.ref I) (.ref D) env).onRaise (fun x => do noteFrame x env; theTreesLotGoes x)) _ _ _
  refine wpAny_noted ?_
  rw [nest_turn0]
  refine wpAny_bind (wpAny_standAt (wpAny_bind ?_))
  cases hv : ms[i]? with
  | none =>
    have hsz2 : ms.length ≤ i := by simpa using hv
    refine wpAny_pyNext_list_end hh hit' hl' (by simpa using hv) fun h₁ he₁ => wpAny_pure ?_
    have e : i = ms.length := by omega
    subst e
    exact hR h₁ tk m' ys (hn'.extBut he₁ (Ne.symm hIC)) (hacc'.extBut he₁ hDI) hP fun b o hbC hbI hbD e => he₁ b o hbI (hkp b o hbC hbI hbD e)
  | some v =>
    have hlt : i < ms.length := (List.getElem?_eq_some_iff.mp hv).1
    refine wpAny_pyNext_list_item hit' hl' (x := v) (by simpa using hv) fun h₁ hit₁ hs₁ => ?_
    refine wpAny_bind (wpAny_of_eq (by rfl) ?_)
    refine wpAny_bind (wpAny_assign_Name (wpAny_storeName_local hx (hn'.sameBut hs₁ (Ne.symm hIC)) (fun h₂ hn₂ hs₂ => ?_) (by rw [hk]; rfl)))
    have up₂ : ∀ b o, b ≠ env.locals → b ≠ I → H.get? b = some o → h₂.get? b = some o := fun b o hbC hbI e => hs₂.extBut b o hbC (hs₁.extBut b o hbI e)
    have hit₂ := hit₁.extBut hs₂.extBut hIC
    have hl₂ : h₂.IsList ax ms.toArray := hl'.at fun o e => up₂ ax o haC haI e
    have hacc₂ : h₂.PlainList D ys.toArray := hacc'.at fun o e => up₂ D o hDC hDI e
    refine wpAny_bind (wpAny_mono (inner i v _ _ hv hn₂ (by simp) fun b o e => ?_) (fun r s₃ h₃ => ?_) fun _ _ f => f.elim)
    · obtain ⟨c1, c2, c3, c4⟩ := hg b o e
      exact up₂ b o c1 c2 (hkp b o c1 c2 c3 c4)
    obtain ⟨a, vs, n, h₃', tk₃, rfl, rfl, hk₃, M, hGv⟩ := h₃
    have hl₃ : h₃'.IsList a vs.toArray := ⟨_, M.get, rfl, n, rfl⟩
    have ne : ∀ b o, h₂.get? b = some o → a ≠ b := fun b o e q => by
      have := M.fresh
      rw [q] at this
      rw [show ({ s with heap := h₂, toks := _ } : Shared).heap.get? b = some o from e] at this
      cases this
    obtain ⟨oD, hoD, _⟩ := hacc₂.isList
    obtain ⟨oI, hoI, _⟩ := id hit₂
    obtain ⟨oC, _, _, hoC, _⟩ := id hn₂
    have haltD := ne _ _ hoD
    have haltC := ne _ _ hoC
    have hsza : a < h₃'.objs.size := Heap.lt_size M.get
    refine wpAny_bind (wpAny_standAt (wpAny_bind (wpAny_of_eq (hfold _) ?_)))
    refine wpAny_bind (wpAny_holding (wpAny_pyIter_list hl₃ ?_))
    have lt3 : ∀ b o, h₂.get? b = some o → b < h₃'.objs.size := fun b o e => Heap.lt_size (hk₃ b o e)
    have hitJ : (h₃'.push { cls := .type "list_iterator", data := .fields #[.ref a, .int 0 0] }).IsListIter h₃'.objs.size a 0 := ⟨_, Heap.get?_push_size _ rfl, rfl, rfl⟩
    have go : codeAny (model prog w) A (.compLoop (nestE x y px py pe iter0 iter1 scope pos) 1 (.ref h₃'.objs.size) (.ref D) env) (fun r s' => match r with
        | .ok _ => ∃ m, m < ms.length + 1 - i ∧ ∃ h' tk m' j ys, s' = { s with heap := h', toks := tk } ∧ h'.IsListIter I ax j ∧ h'.IsList ax ms.toArray ∧ h'.PlainList D ys.toArray ∧ h'.Ns env.locals m' ∧ Pieces G j ys ∧ j ≤ ms.length ∧ m = ms.length + 1 - j ∧
            ∀ b o, b ≠ env.locals → b ≠ I → b ≠ D → s.heap.get? b = some o → h'.get? b = some o
        | .error e => cameBackBy (model prog w) A env (notedBy (model prog w) A env fun e s' => R (.error e) s') e s')
        { s with heap := h₃'.push { cls := .type "list_iterator", data := .fields #[.ref a, .int 0 0] }, toks := tk₃ } := by
      refine nest_inner (ax := a) (items := vs.toArray) (ys := ys.toArray) hh hy hk ?_ hDC ?_ ?_ haltC haltD hitJ (hl₃.push _) ((hacc₂.at fun o e => hk₃ _ o e).at fun o e => Heap.get?_push_of_some _ e) ((hn₂.keeps hk₃).push _) hdb ?_ ?_
      · exact Nat.ne_of_lt (lt3 _ _ hoD)
      · exact Nat.ne_of_gt (lt3 _ _ hoC)
      · exact Nat.ne_of_lt hsza
      · have h1 := Pieces.len hG hP
        have h2 := hG _ _ hGv
        simp only [List.size_toArray]; omega
      · intro h' tk' m'' hn'' hacc'' hk''
        have up₄ : ∀ b o, b ≠ env.locals → b ≠ D → h₂.get? b = some o → h'.get? b = some o := fun b o hbC hbD e =>
          hk'' b o hbC (Nat.ne_of_lt (lt3 _ _ e)) hbD (Heap.get?_push_of_some _ (hk₃ b o e))
        refine ⟨ms.length + 1 - (i + 1), by omega, h', tk', m'', i + 1, ys ++ vs, rfl, hit₂.at fun o e => up₄ _ o hIC (Ne.symm hDI) e, hl₂.at fun o e => up₄ _ o haC haD e, ?_, hn'', .succ hP hGv, hlt, rfl, fun b o hbC hbI hbD e => up₄ b o hbC hbD (up₂ b o hbC hbI (hkp b o hbC hbI hbD e))⟩
        simpa using hacc''
    refine wpAny_bind (wpAny_runOwn (h := none) (nest_start 1 (.inr rfl) go (wpAny_pyIter_listiter hitJ go)) |> fun z => wpAny_mono z (fun f s₅ h₅ => ?_) fun _ _ e => e)
    exact wpAny_pure ⟨rfl, h₅⟩
end
end
section
section
variable {prog : Program} {w : World} {A : Around} {E : Value → Shared → Prop} {s : Shared} {x y z : Str} {px py pe pz : Pos} {iter0 iter1 : Expr} {scope : Scope} {pos spos : Pos} {env : Env} {cl : List (Str × Addr)} {h₀ : Heap} {m : Str → Option Value} {news : List (Addr × Obj)} {Q : Flow → Shared → Prop} {ax : Addr} {ms : List Value}
theorem nest_assign (G : Nat → List Value → Prop) (hsw : swapsWith (nestE x y px py pe iter0 iter1 scope pos) (some (.Name z pz)) spos.line env = pure true)
    (hclos : closureFor scope env = pure cl) (hcell : ∀ t ∈ scope.names, t.2 ≠ .cell) (hkind : scope.kind = .function) (hnames : ∀ t ∈ scope.names, t.2 = .local → scope.names.lookup t.1 = some .local)
    (hx : scope.names.lookup x = some .local) (hy : scope.names.lookup y = some .local) (hz : env.kindOf z = some .local) (hp : (env.scope.kind == .class || (env.scope.kind == .module && env.locals != env.globals)) = false) (hh : A.handled = none)
    (F : Fr h₀ env.locals s.heap m) (N : News h₀ env.locals s.heap news) (hiter : ∀ Q' : Value → Shared → Prop, Q' (.ref ax) s → wpAny (model prog w) A (eval iter0 env) Q' E s)
    (hs0 : ∀ v, foldedSetIterable iter0 env v = pure v) (hs1 : ∀ C v, foldedSetIterable iter1 (compEnvC scope cl C env) v = pure v)
    (hl : s.heap.IsList ax ms.toArray) (hms : ms.length ≤ 16) (hG : ∀ i vs, G i vs → vs.length ≤ 16) (hdb : (y == ("__debug__" : Str)) = false)
    (inner : ∀ C i v s' m', s.heap.objs.size ≤ C → ms[i]? = some v → s'.heap.Ns C m' → m' x = some v → Keeps s.heap s'.heap →
      wpAny (model prog w) A (eval iter1 (compEnvC scope cl C env)) (fun r s'' => ∃ a vs n h' tk, r = .ref a ∧ s'' = { s' with heap := h', toks := tk } ∧ Keeps s'.heap h' ∧ Made s'.heap h' a vs n ∧ G i vs) (fun _ _ => False) s')
    (done : ∀ D ys n h' tk, (∀ p ∈ news, p.1 < D) → Fr h₀ env.locals h' (fun t => if t = z then some (.ref D) else m t) → News h₀ env.locals h' ((D, W.listOf ys.toArray n) :: news) → Pieces G ms.length ys → Q .next { s with heap := h', toks := tk }) :
    wpAny (model prog w) A (exec (.Assign [.Name z pz] (nestE x y px py pe iter0 iter1 scope pos) spos) env) Q E s := by
  rw [exec_Assign_Name_used _ _ _ _ hsw]
  refine wpAny_bind (wpAny_standAt (wpAny_bind ?_))
  show wpAny _ A (do let _ ← comprehension (nestE x y px py pe iter0 iter1 scope pos) scope env _ (newList []) false (eval iter0 env) (some (assign (.Name z pz) env))) _ _ s
  refine wpAny_bind (wpAny_mono (wpAny_comprehension_free (use := some (assign (.Name z pz) env)) (Q := fun _ s' => Q .next s') rfl hs0 hclos hkind hnames (hiter _ ?_)) (fun _ s' hq => wpAny_pure (wpAny_pure hq)) fun _ _ e => e)
  refine wpAny_pyIter_list hl (wpAny_newObj_type (hd := by size_fits) (wpAny_newFunctionEnv hcell (by intro y hy; simp at hy) (fun h₁ hns₁ hsb₁ => ?_) hkind))
  dsimp only at hns₁ hsb₁ ⊢
  obtain ⟨ol, hol, hol'⟩ := id hl
  have hax : ax < s.heap.objs.size := Heap.lt_size hol
  have hLs : env.locals < s.heap.objs.size := F.ns.lt
  generalize hH1 : s.heap.push { cls := .type "list_iterator", data := .fields #[.ref ax, .int 0 0] } = H1 at hns₁ hsb₁ ⊢
  have hD : H1.objs.size = s.heap.objs.size + 1 := by rw [← hH1, Heap.size_push]
  generalize hH2 : H1.push { cls := .type "list", dict := none, data := .seq ([] : List Value).toArray } = H2 at hns₁ hsb₁ ⊢
  have hC : H2.objs.size = s.heap.objs.size + 2 := by rw [← hH2, Heap.size_push, hD]
  have hDI : H1.objs.size ≠ s.heap.objs.size := by rw [hD]; exact Nat.succ_ne_self _
  have hDC : H1.objs.size ≠ H2.objs.size := by rw [hD, hC]; exact Nat.ne_of_lt (Nat.lt_succ_self _)
  have hIC : s.heap.objs.size ≠ H2.objs.size := by rw [hC]; exact Nat.ne_of_lt (Nat.lt_succ_of_lt (Nat.lt_succ_self _))
  have below : ∀ b, b < s.heap.objs.size → b ≠ H2.objs.size ∧ b ≠ s.heap.objs.size ∧ b ≠ H1.objs.size := fun b hb =>
    ⟨by rw [hC]; exact Nat.ne_of_lt (Nat.lt_succ_of_lt (Nat.lt_succ_of_lt hb)), Nat.ne_of_lt hb, by rw [hD]; exact Nat.ne_of_lt (Nat.lt_succ_of_lt hb)⟩
  have old : ∀ b o, s.heap.get? b = some o → h₁.get? b = some o := fun b o e =>
    hsb₁.extBut b o (below b (Heap.lt_size e)).1 (Heap.get?_push_of_some _ (hH2 ▸ Heap.get?_push_of_some _ (hH1 ▸ Heap.get?_push_of_some _ e)))
  have hit : h₁.IsListIter s.heap.objs.size ax 0 :=
    ⟨_, hsb₁.extBut _ _ hIC (Heap.get?_push_of_some _ (hH2 ▸ Heap.get?_push_of_some _ (hH1 ▸ Heap.get?_push_size _ rfl))), rfl, rfl⟩
  have hacc : h₁.PlainList H1.objs.size #[] := ⟨_, hsb₁.extBut _ _ hDC (Heap.get?_push_of_some _ (hH2 ▸ Heap.get?_push_size _ rfl))⟩
  have hl₁ : h₁.IsList ax ms.toArray := ⟨ol, old _ _ hol, hol'⟩
  have fresh : ∀ a, s.heap.objs.size ≤ a → h₀.get? a = none := fun a ha => ktu_new F ha
  have loop : ∀ s₃ : Shared, s₃ = { s with heap := h₁, toks := s.toks + ([] : List (Str × Value)).length } →
      codeAny (model prog w) A (.compLoop (nestE x y px py pe iter0 iter1 scope pos) 0 (.ref s.heap.objs.size) (.ref H1.objs.size) (compEnvC scope cl H2.objs.size env))
        (compPost (model prog w) A E (some (assign (.Name z pz) env)) (fun _ s' => Q .next s') (.ref H1.objs.size) H2.objs.size) s₃ := by
    rintro s₃ rfl
    refine nest_outer (env := compEnvC scope cl H2.objs.size env) (g := s.heap) G hh (lookup_relabel_local hx) (lookup_relabel_local hy) (by simp [compEnvC, relabel, hkind]) hDI hDC hIC (below ax hax).2.1 (below ax hax).1 (below ax hax).2.2 hit hl₁ hacc hns₁ hdb hms hG
      (fun b o e => ⟨(below b (Heap.lt_size e)).1, (below b (Heap.lt_size e)).2.1, (below b (Heap.lt_size e)).2.2, old b o e⟩) (hs1 _)
      (fun i v s' m' hv hn hm hk => inner _ i v s' m' (by rw [hC]; exact Nat.le_succ_of_le (Nat.le_succ _)) hv hn hm hk) ?_
    intro h' tk m' ys hnC hpl hP hk
    have up : ∀ b o, s.heap.get? b = some o → h'.get? b = some o := fun b o e => hk b o (below b (Heap.lt_size e)).1 (below b (Heap.lt_size e)).2.1 (below b (Heap.lt_size e)).2.2 (old b o e)
    have hLC : env.locals ≠ H2.objs.size := (below _ hLs).1
    have hLD : env.locals ≠ H1.objs.size := (below _ hLs).2.2
    show wpAny _ A (assign (.Name z pz) env (.ref H1.objs.size)) _ _ _
    refine wpAny_assign_Name (wpAny_storeName_local hz (F.ns.at' fun o e => up _ o e) (fun h₂ hn₂ hs₂ => ?_) hp)
    refine ⟨m', hnC.sameBut hs₂ (Ne.symm hLC), fun h₃ hs₃ => ?_⟩
    obtain ⟨n, hn⟩ := (hpl.extBut hs₂.extBut (Ne.symm hLD)).extBut hs₃.extBut hDC
    have up3 : ∀ b o, b ≠ env.locals → s.heap.get? b = some o → h₃.get? b = some o := fun b o hb e => hs₃.extBut b o (below b (Heap.lt_size e)).1 (hs₂.extBut b o hb (up b o e))
    refine done H1.objs.size ys n h₃ _ (fun p hp => ?_) ⟨hn₂.sameBut hs₃ hLC, fun b o e => up3 b o (Nat.ne_of_lt (Nat.lt_of_lt_of_le (Heap.lt_size e) F.above)) (F.keep b o e), F.above⟩ (fun p hp => ?_) hP
    · rw [hD]; exact Nat.lt_succ_of_lt (Heap.lt_size (N p hp).1)
    · rcases List.mem_cons.mp hp with rfl | hp
      · exact ⟨hn, Ne.symm hLD, fresh _ (by rw [hD]; exact Nat.le_succ _)⟩
      · exact ⟨up3 _ _ (N p hp).2.1 (N p hp).1, (N p hp).2⟩
  exact nest_start 0 (.inl rfl) (loop _ rfl) (wpAny_pyIter_listiter hit (loop _ rfl))
end
end
section
section
variable {prog : Program} {w : World} {A : Around} {E : Value → Shared → Prop} {s : Shared} {h₀ : Heap} {L : Addr} {m : Str → Option Value} {env : Env}
theorem comp_eval {elt iter : Expr} {x : Str} {px : Pos} {scope : Scope} {cl : List (Str × Addr)} {pos : Pos} {Q : Value → Shared → Prop} (R : Value → Value → Prop)
    (hh : A.handled = none) (hclos : closureFor scope env = pure cl) (hcell : ∀ y ∈ scope.names, y.2 ≠ .cell) (hkind : scope.kind = .function)
    (hnames : ∀ y ∈ scope.names, y.2 = .local → scope.names.lookup y.1 = some .local) (hx : scope.names.lookup x = some .local)
    (h : wpAny (model prog w) A (eval iter env) (fun xv s₁ => ∃ news : List (Addr × Obj), ∃ ax vs, xv = .ref ax ∧ s₁.heap.IsList ax vs.toArray ∧ vs.length ≤ sizeLine ∧ Fr h₀ L s₁.heap m ∧ News h₀ L s₁.heap news ∧
      (∀ C v s₂ m₂ E', v ∈ vs → s₂.heap.Ns (compEnvC scope cl C env).locals m₂ → m₂ x = some v → Fr h₀ L s₂.heap m → News h₀ L s₂.heap news →
        wpAny (model prog w) A (eval elt (compEnvC scope cl C env)) (fun y s₃ => R v y ∧ PySem.Keeps s₂ s₃) E' s₂) ∧
      (∀ D (ys : List Value) n h' tk, Fr h₀ L h' m → News h₀ L h' ((D, W.listOf ys.toArray n) :: news) → (∀ p ∈ news, p.1 ≠ D) → Paired R vs ys → Q (.ref D) { s₁ with heap := h', toks := tk })) E s)
    (hs : ∀ x, foldedSetIterable iter env x = pure x) :
    wpAny (model prog w) A (eval (.ListComp elt [⟨.Name x px, iter, [], 0⟩] scope pos) env) Q E s := by
  refine wpAny_ListComp_free (fun _ => true) R hclos hcell hkind hnames hx (wpAny_mono h (fun xv s₁ h₁ => ?_) fun _ _ e => e) hs
  obtain ⟨news, ax, vs, rfl, hl, hsz, F, N, helt, hQ⟩ := h₁
  have hlt : ax < s₁.heap.objs.size := by obtain ⟨_, e, _⟩ := hl; exact Heap.lt_size e
  have up : ∀ (s₃ : Shared), (∀ b o, b ∉ [s₁.heap.objs.size] → (s₁.heap.push { cls := .type "list_iterator", data := .fields #[.ref ax, .int 0 0] }).get? b = some o → s₃.heap.get? b = some o) → ∀ b o, s₁.heap.get? b = some o → s₃.heap.get? b = some o :=
    fun s₃ hk b o e => hk b o (fun hm => by rcases List.mem_cons.mp hm with rfl | hm; exact Nat.lt_irrefl _ (Heap.lt_size e); cases hm) (Heap.get?_push_of_some _ e)
  refine wpAny_pyIter_list hl ⟨s₁.heap.objs.size, [s₁.heap.objs.size, ax], [s₁.heap.objs.size], vs.toArray.size, _, _, rfl, Walks.list hh _ _ (Nat.ne_of_lt hlt) vs.toArray, (by rw [List.size_toArray]; exact hsz), ⟨⟨_, Heap.get?_push_size _ rfl, rfl, rfl⟩, hl.push _⟩, ?_, ⟨?_, ?_⟩, ?_⟩
  · intro b hb
    show b < (s₁.heap.push _).objs.size
    rw [Heap.size_push]
    rcases List.mem_cons.mp hb with rfl | hb
    · exact Nat.lt_succ_self _
    · rcases List.mem_cons.mp hb with rfl | hb
      · exact Nat.lt_succ_of_lt hlt
      · cases hb
  · intro C i v s₃ m₃ E' hC hP hn hm hk _
    exact wpAny_pure ⟨rfl, _, _, rfl, fun _ _ e => e⟩
  · intro C i v s₃ m₃ E' hC hP hp hn hm hk _
    exact helt C v s₃ m₃ E' (by simpa using Array.mem_of_getElem? hP) hn hm (F.keeps (up s₃ hk)) (N.grown (up s₃ hk))
  · intro D h' tk ys vs' hnew hlD hplD hlen hP hF hk
    have e : vs' = vs := by simpa using list_of_places hlen hP
    subst e
    have keep : ∀ b o, s₁.heap.get? b = some o → h'.get? b = some o := up { s₁ with heap := h' } hk
    have hnD : h₀.get? D = none := by
      cases e : h₀.get? D with
      | none => rfl
      | some o' => rw [Heap.get?_push_of_some _ (F.keep _ _ e)] at hnew; cases hnew
    have hneD : ∀ p ∈ news, p.1 ≠ D := fun p hp e => by rw [← e, Heap.get?_push_of_some _ (N p hp).1] at hnew; cases hnew
    obtain ⟨n, N'⟩ := newsPlain (F.keeps keep) (N.grown keep) hnD (items := ys) ⟨hplD, hneD⟩
    rw [List.filter_eq_self.mpr (fun _ _ => rfl)] at hF
    exact hQ D ys.toList n h' tk (F.keeps keep) (by rw [Array.toArray_toList]; exact N') hneD hF
end
end
section
/-! plain: the listing -/
/-- the figures of all modes -/
def figsAll (ms : List Int) : List Int := ms.flatMap figsM
theorem figs_len {ms : List Int} : (figsAll ms).length = 10 * ms.length := by
  induction ms with
  | nil => rfl
  | cons c r ih =>
    have : figsAll (c :: r) = figsM c ++ figsAll r := rfl
    rw [this, List.length_append, ih, List.length_cons]
    have : (figsM c).length = 10 := rfl
    omega
def listS (fs : List Int) : Str := ⟨(fs.map sgnC).toArray⟩
theorem str_ext {x y : Str} (h : x.cps.toList = y.cps.toList) : x = y := by
  cases x with | mk a => cases y with | mk b =>
    have : a = b := Array.toList_inj.mp h
    rw [this]
theorem sjoin_cps : ∀ xs : List Str, (Str.join ⟨#[]⟩ xs).cps.toList = xs.flatMap fun x => x.cps.toList
  | [] => rfl
  | [x] => by simp [Str.join]
  | x :: y :: r => by
    have ih := sjoin_cps (y :: r)
    show (x ++ ⟨#[]⟩ ++ Str.join ⟨#[]⟩ (y :: r)).cps.toList = _
    rw [List.flatMap_cons, ← ih]
    simp [Str.cps_append]
theorem tjoin_eq (sep : Str) (xs : List Str) : Txt.join sep xs = Str.join sep xs := by
  unfold Txt.join
  exact StrLaws.glued_eq_join sep xs
theorem emp_eq : Str.ofString "" = (⟨#[]⟩ : Str) := by decide +kernel
theorem flatMap_sgn (fs : List Int) : ((fs.map sgnS).flatMap fun x => x.cps.toList) = fs.map sgnC := by
  induction fs with
  | nil => rfl
  | cons f r ih => rw [List.map_cons, List.flatMap_cons, ih]; rfl
theorem modeS_list (c : Int) : modeS c = listS (figsM c) := by
  apply str_ext
  unfold modeS listS
  rw [tjoin_eq, emp_eq, sjoin_cps, flatMap_sgn]
theorem join_modes (ms : List Int) : Txt.join (Str.ofString "") (ms.map modeS) = listS (figsAll ms) := by
  apply str_ext
  unfold listS
  rw [tjoin_eq, emp_eq, sjoin_cps]
  show _ = (figsAll ms).map sgnC
  induction ms with
  | nil => rfl
  | cons c r ih =>
    have e : figsAll (c :: r) = figsM c ++ figsAll r := rfl
    rw [List.map_cons, List.flatMap_cons, ih, e, List.map_append, modeS_list]
    rfl
theorem listS_len (fs : List Int) : (listS fs).length = fs.length := by
  show (fs.map sgnC).toArray.size = _
  simp
theorem modes_weight {ms : List Int} (h : ms.length ≤ 6) : ((ms.map modeS).map (·.length)).sum + (ms.map modeS).length ≤ 1048576 := by
  have : ((ms.map modeS).map (·.length)).sum = 10 * ms.length := by
    induction ms with
    | nil => rfl
    | cons c r ih =>
      have := ih (by simp only [List.length_cons] at h; omega)
      simp only [List.map_cons, List.sum_cons, List.length_cons, this]
      rw [modeS_list, listS_len]
      have : (figsM c).length = 10 := rfl
      omega
  rw [this, List.length_map]; omega
theorem price_in : ∀ i : Nat, i < 16 → -1 ≤ ([-1, 21, 34, -1, 33, -1, 35, -1, 0, -1, 25, -1, 18, -1, -1, -1] : List Int).getD i 0 ∧ ([-1, 21, 34, -1, 33, -1, 35, -1, 0, -1, 25, -1, 18, -1, -1, -1] : List Int).getD i 0 ≤ 35 := by decide
theorem kindF_in (c : Int) : 0 ≤ kindF c ∧ kindF c < 64 := by
  have h := price_in (c / 4096 % 16).toNat (by omega)
  unfold kindF
  omega
theorem rF_in (c k : Int) : 0 ≤ rF c k ∧ rF c k < 64 := by
  unfold rF rightsF
  generalize c / 8 ^ (2 - k).toNat = x
  omega
theorem wF_in (c k : Int) : 0 ≤ wF c k ∧ wF c k < 64 := by
  unfold wF rightsF
  generalize c / 8 ^ (2 - k).toNat = x
  omega
theorem xF_in (c k : Int) (hk : 0 ≤ k ∧ k ≤ 2) : 0 ≤ xF c k ∧ xF c k < 64 := by
  unfold xF rightsF aboveF
  generalize c / 8 ^ (2 - k).toNat = x
  generalize c / 2 ^ (11 - k).toNat = y
  have h1 : x % 8 % 2 = 0 ∨ x % 8 % 2 = 1 := by omega
  have h2 : y % 2 = 0 ∨ y % 2 = 1 := by omega
  rcases h1 with h1 | h1 <;> rcases h2 with h2 | h2 <;> rw [h1, h2] <;> omega
theorem figsM_in (c : Int) : ∀ f ∈ figsM c, 0 ≤ f ∧ f < 64 := by
  intro f hf
  simp only [figsM, List.mem_cons, List.not_mem_nil, or_false] at hf
  rcases hf with rfl | rfl | rfl | rfl | rfl | rfl | rfl | rfl | rfl | rfl <;> first | exact kindF_in _ | exact rF_in _ _ | exact wF_in _ _ | exact xF_in _ _ (by omega)
theorem figs_in (ms : List Int) : ∀ f ∈ figsAll ms, 0 ≤ f ∧ f < 64 := by
  intro f hf
  obtain ⟨c, _, hc⟩ := List.mem_flatMap.mp hf
  exact figsM_in c f hc
/-- the figures and the zeros behind them -/
def fullF (fs : List Int) : List Int := fs ++ (List.replicate ((fs.length : Int).fmod 4).toNat ([0] : List Int)).flatten
theorem zeros_eq (n : Nat) : (List.replicate n ([0] : List Int)).flatten = List.replicate n 0 := by
  induction n with
  | zero => rfl
  | succ n ih => rw [List.replicate_succ, List.flatten_cons, ih]; rfl
theorem fullF_in {fs : List Int} (h : ∀ f ∈ fs, 0 ≤ f ∧ f < 64) : ∀ f ∈ fullF fs, 0 ≤ f ∧ f < 64 := by
  intro f hf
  unfold fullF at hf
  rw [zeros_eq] at hf
  rcases List.mem_append.mp hf with h1 | h1
  · exact h f h1
  · rw [List.eq_of_mem_replicate h1]; decide
theorem fullF_len {fs : List Int} {k : Nat} (h : fs.length = 10 * k) (hk : k ≤ 6) : (fullF fs).length ≤ 62 := by
  unfold fullF
  rw [zeros_eq, List.length_append, List.length_replicate, Int.fmod_eq_emod_of_nonneg _ (by decide)]
  omega
/-- one sign for another -/
def sub1 (c d a : Nat) : Nat := if a = c then d else a
theorem sub1_free (c d : Nat) : ∀ l : List Nat, c ∉ l → l.map (sub1 c d) = l
  | [], _ => rfl
  | k :: r, h => by
    have h1 : ¬ k = c := fun e => h (e ▸ List.mem_cons_self ..)
    rw [List.map_cons, sub1_free c d r fun m => h (List.mem_cons_of_mem _ m)]
    show (if k = c then d else k) :: r = _
    rw [if_neg h1]
theorem sub1_join (c d : Nat) : ∀ parts : List Str, (∀ p ∈ parts, c ∉ p.cps.toList) → (Str.join ⟨#[c]⟩ parts).cps.toList.map (sub1 c d) = (Str.join ⟨#[d]⟩ parts).cps.toList
  | [], _ => rfl
  | [p], h => sub1_free c d _ (h p (List.mem_singleton.mpr rfl))
  | p :: q :: r, h => by
    have ih := sub1_join c d (q :: r) fun a ha => h a (List.mem_cons_of_mem _ ha)
    show (p ++ ⟨#[c]⟩ ++ Str.join ⟨#[c]⟩ (q :: r)).cps.toList.map (sub1 c d) = (p ++ ⟨#[d]⟩ ++ Str.join ⟨#[d]⟩ (q :: r)).cps.toList
    simp only [Str.cps_append, Array.toList_append, List.map_append]
    rw [ih, sub1_free c d _ (h p (List.mem_cons_self ..))]
    simp [sub1]
theorem replace_sub1 (x : Str) (c d : Nat) : (Txt.replace x ⟨#[c]⟩ ⟨#[d]⟩).cps.toList = x.cps.toList.map (sub1 c d) := by
  rw [StrLaws.replace_one, ← sub1_join c d _ (StrLaws.split_free x c), StrLaws.join_split]
def mapS (g : Nat → Nat) (x : Str) : Str := ⟨(x.cps.toList.map g).toArray⟩
theorem mapS_len (g : Nat → Nat) (x : Str) : (mapS g x).length = x.length := by
  show ((x.cps.toList.map g).toArray).size = x.cps.size
  simp
theorem rep_mapS (x : Str) {y z : Str} {c d : Nat} (hy : y = ⟨#[c]⟩) (hz : z = ⟨#[d]⟩) : Txt.replace x y z = mapS (sub1 c d) x := by
  subst hy; subst hz
  apply str_ext
  rw [replace_sub1]
  simp [mapS]
theorem rep_us (x : Str) : Txt.replace x (Str.ofString "?") (Str.ofString "_") = mapS (sub1 63 95) x := rep_mapS x (by decide +kernel) (by decide +kernel)
theorem rep_pl (x : Str) : Txt.replace x (Str.ofString "-") (Str.ofString "+") = mapS (sub1 45 43) x := rep_mapS x (by decide +kernel) (by decide +kernel)
theorem rep_sl (x : Str) : Txt.replace x (Str.ofString "?") (Str.ofString "/") = mapS (sub1 63 47) x := rep_mapS x (by decide +kernel) (by decide +kernel)
theorem page_eq {fs : List Int} (h : fs.length % 4 = 0 ∨ fs.length % 4 = 2) : listS fs ++ Txt.mul (Str.ofString "A") ((fs.length : Int).fmod 4) = listS (fullF fs) := by
  apply str_ext
  rw [Str.cps_append, Array.toList_append]
  unfold fullF
  rw [zeros_eq]
  have e : ∀ n : Nat, (fs.length : Int).fmod 4 = (n : Int) → n = 0 ∨ n = 2 → (listS fs).cps.toList ++ (Txt.mul (Str.ofString "A") ((fs.length : Int).fmod 4)).cps.toList = (listS (fs ++ List.replicate ((fs.length : Int).fmod 4).toNat 0)).cps.toList := by
    intro n hn hc
    rw [hn]
    have e2 : (Txt.mul (Str.ofString "A") (n : Int)).cps.toList = (List.replicate n (0 : Int)).map sgnC := by
      rcases hc with rfl | rfl <;> decide +kernel
    rw [e2]
    simp [listS]
  refine e (fs.length % 4) ?_ h
  rw [Int.fmod_eq_emod_of_nonneg _ (by decide)]
  omega
end
section
open Builtin Builtin.Str in
/-- str.replace, the tokens do not shrink -/
theorem replaceT {prog : Program} {w : World} {A : Around} {E : Value → Shared → Prop} {s : Shared} {x y z : Str} {t u v : Tok} {Q : Value → Shared → Prop} (hu : u ≠ 0) (hv : v ≠ 0) (huv : u ≠ v) (hyz : (y == z) = false) (hb : x.length + (x.length + 1) * z.length ≤ 16777216)
    (hq : ∀ t' k, s.toks ≤ k → Q (.str (Txt.replace x y z) t') { s with toks := k }) : wpAny (model prog w) A (call (.builtin "str.replace") [.str x t, .str y u, .str z v]) Q E s := by
  have hn : tooLong (x.length + (occurrences x y 0 x.length (x.length + 1)).length * z.length) = false := by
    refine decide_eq_false (Nat.not_lt.mpr ?_)
    have h1 : (occurrences x y 0 x.length (x.length + 1)).length * z.length ≤ (x.length + 1) * z.length := Nat.mul_le_mul_right _ (StrLaws.occ_length_le x y 0 x.length (x.length + 1))
    rw [show sizeLine = 16777216 from by decide]
    omega
  have hg := gives_str_replace x y z t u v fun _ => ⟨by simp [hu, hv], by simp [huv], hyz, hn⟩
  refine call_gives F.slot_str_replace (typeIs_str _ _ _) F.entry_str_replace (F.args_str_replace_3 _ _ _) hg ?_
  by_cases hc : ((occurrences x y 0 x.length (x.length + 1)).isEmpty || (y.length == 0 && z.length == 0)) = true
  · have e : Txt.replace x y z = x := by unfold Txt.replace; rw [if_pos hc]
    rw [if_pos hc]
    exact e ▸ hq t s.toks (Nat.le_refl _)
  · have e : Txt.replace x y z = glued z (partsBetween x (occurrences x y 0 x.length (x.length + 1)) y.length) := by unfold Txt.replace; rw [if_neg hc]
    rw [if_neg hc]
    refine ⟨fits_replaced y hb, ?_⟩
    exact e ▸ hq _ _ (by simp)
theorem replaceT1 {prog : Program} {w : World} {A : Around} {E : Value → Shared → Prop} {s : Shared} {x y z : Str} {t u v : Tok} {Q : Value → Shared → Prop} (hu : u ≠ 0) (hv : v ≠ 0) (huv : u ≠ v) (hyz : (y == z) = false) (hx : x.length ≤ 100) (hz : z.length ≤ 1)
    (hq : ∀ t' k, s.toks ≤ k → Q (.str (Txt.replace x y z) t') { s with toks := k }) : wpAny (model prog w) A (call (.builtin "str.replace") [.str x t, .str y u, .str z v]) Q E s :=
  replaceT hu hv huv hyz (by have : (x.length + 1) * z.length ≤ (x.length + 1) * 1 := Nat.mul_le_mul_left _ hz
                             omega) hq
end
section
section
variable {prog : Program} {w : World} {A : Around} {E : Value → Shared → Prop} {s : Shared}
theorem eqAt_bytes {b : Array UInt8} {t u : Tok} : PySem.SeqAt.EqAt A s (.bytes b t) (.bytes b u) true := fun prog w E Q h => eqBool_bytes (by rw [decide_eq_true rfl]; exact h)
/-- two lists of the same three bytes -/
theorem ne_same3 {l r : Addr} {a b c : Array UInt8} {t1 t2 t3 u1 u2 u3 : Tok} {Q : Value → Shared → Prop} (hl : s.heap.IsList l #[.bytes a t1, .bytes b t2, .bytes c t3]) (hr : s.heap.IsList r #[.bytes a u1, .bytes b u2, .bytes c u3]) (hu : A.units < cLine)
    (h : Q (.bool false) s) : wpAny (model prog w) A (compareOp .NotEq (.ref l) (.ref r)) Q E s := by
  refine PySem.SeqAt.RcNeAt.lists (e := fun _ => true) hl hr rfl hu ?_ prog w E Q h
  intro j h1 h2
  have h3 : j < 3 := h1
  rcases j with _ | _ | _ | j
  · exact eqAt_bytes
  · exact eqAt_bytes
  · exact eqAt_bytes
  · omega
end
end
section
/-- entering a lambda that stands in the heap -/
theorem enterL {prog : Program} {w : World} {loose : List Str} {mean : ExcName → Option Value} {mg mb : Str → Option Value} {A : Around} {base : Heap} {outer : List Env} {s : Shared} {Q E : Value → Shared → Prop}
    {name qual : Str} {params : Arguments} {body : Expr} {scope : Scope} {cl : List (Str × Addr)} {pm ctv : Value} {c' f : Addr} {oc : Obj} {vs' : Array Value} {t' : Tok} {args : List Value} (binds : List (Str × Value))
    (H : Here w loose mean mg mb A base outer s.heap)
    (ho : s.heap.get? f = some (kla_obj name qual params body scope cl pm c' ctv)) (hoc : s.heap.get? c' = some oc) (d1 : oc.data = .fields vs') (d2 : vs'[1]? = some (.str qual t')) (hroom : A.depth < recursionLimit)
    (hbind : bindArgs (kla_fn name qual params body scope cl pm (.ref c') ctv) ⟨args, []⟩ = pure binds) (hloc : ∀ y ∈ binds, scope.names.lookup y.1 = some .local)
    (h : ∀ L' h₁ tk, Fr s.heap L' h₁ (fun y => binds.reverse.lookup y) → News s.heap L' h₁ [] → Below A base outer s.heap → (hd.heap_1 w.params).In s.heap → Top topProg loose mean mg mb s.heap →
      wpAny (model prog w) (A.deeper (envX qual scope L' f (.ref c') cl)) (eval body (envX qual scope L' f (.ref c') cl)) Q
        (fun e s' => wpAny (model prog w) (A.deeper (envX qual scope L' f (.ref c') cl)) (leaving (envX qual scope L' f (.ref c') cl) e) (fun _ s'' => E e s'') (fun e' s'' => E e' s'') s')
        { s with heap := h₁, toks := tk })
    (hco : scope.isCoroutine = false) (hgen : scope.isGenerator = false) (hk : scope.kind = .function)
    (hcell : ∀ x ∈ scope.names, x.2 ≠ .cell) : wpAny (model prog w) A (call (.ref f) args []) Q E s := by
  refine wpAny_call (kla_callFunE hroom ho rfl hco hgen rfl ⟨c', oc, vs', t', rfl, hoc, d1, d2⟩ ?_)
  rw [hbind]
  refine wpAny_pure (wpAny_newFunctionEnv hcell hloc (fun h₁ hns hsb => ⟨H.T.nolimit.fresh _ hsb, ?_⟩) hk)
  have hk₁ : ∀ b o, s.heap.get? b = some o → h₁.get? b = some o := fun b o e => hsb.extBut b o (Nat.ne_of_lt (Heap.lt_size e)) (Heap.get?_push_of_some _ e)
  exact kla_codeExpr (h s.heap.objs.size h₁ _ ⟨hns, hk₁, Nat.le_refl _⟩ News.nil H.B H.X H.T)
/-- a lambda among the objects -/
structure LamIs (objs : List (Addr × Obj)) (f : Addr) (params : Arguments) (body : Expr) (scope : Scope) (cl : List (Str × Addr)) : Prop where
  ex : ∃ name qual pm ctv c' oc vs' t', (f, kla_obj name qual params body scope cl pm c' ctv) ∈ objs ∧ (c', oc) ∈ objs ∧ oc.data = Data.fields vs' ∧ vs'[1]? = some (.str qual t')
abbrev lamArgs (pp : Pos) : Arguments := { posonlyargs := [], args := [{ arg := Str.ofString "s", annotation := none, pos := pp }], vararg := none, kwonlyargs := [], kw_defaults := [], kwarg := none, defaults := [] }
section
variable {w : World} {loose : List Str} {mean : ExcName → Option Value} {mg mb : Str → Option Value} {A₀ A : Around} {base h₀ : Heap} {outer : List Env} {s : Shared} {Q E : Value → Shared → Prop} {L : Addr} {m : Str → Option Value} {news : List (Addr × Obj)} {env : Env}
theorem encode_alt_use {bs : Array UInt8} {t t2 : Tok} (B : Below A₀ base outer h₀) (F : Fr h₀ L s.heap m) (X : (hd.heap_1 w.params).In h₀) (N : News h₀ L s.heap news) (T : Top topProg loose mean mg mb h₀)
    (hA : A.frames = some (env :: outer)) (hf : env.frame = some L) (hk : env.scope.kind = .function) (hh : A.handled = none) (hd : A.depth ≤ 880) (hu : A.units ≤ 8800)
    (hbs : Hid (Whole3 bs))
    (h : ∀ t' h' tk', Fr h₀ L h' m → News h₀ L h' news → Q (.bytes (trans (mkTrans #[43, 47] #[45, 63]) (enc bs)) t') { s with heap := h', toks := tk' }) :
    wpAny (model Challenge.rw_qh0096_01.row.prog w) A (call (.ref 141) [.bytes bs t, .bytes #[45, 63] t2]) Q E s :=
  wpAny_lower (b64encode_alt (Here.down B F X T rfl hf hk) hbs ⟨fun h' tk' t' k => h t' h' tk' (frAfter F k) (newsAfter N k)⟩) hh hA hd hu
end
theorem lam_enc {w : World} {loose : List Str} {mean : ExcName → Option Value} {mg mb : Str → Option Value} {objs : List (Addr × Obj)} {f : Addr} {pp p1 p2 p3 p4 : Pos} {k : Nat} {bs : Array UInt8} {t : Tok}
    (hl : LamIs objs f (lamArgs pp) (.Call (.Name (Str.ofString "b64encode") p1) [.Name (Str.ofString "s") p2, .Constant (.bytes [45, 63]) k p3] [] p4) { kind := .function, names := [(Str.ofString "s", .local), (Str.ofString "b64encode", .globalImplicit)], isGenerator := false, isCoroutine := false } [])
    (hb : Hid (Whole3 bs)) : Deed w loose mean mg mb objs f (.bytes bs t) (.ok (trans (mkTrans #[43, 47] #[45, 63]) (enc bs))) := by
  obtain ⟨name, qual, pm, ctv, c', oc, vs', t', hm, hmc, d1, d2⟩ := hl.ex
  refine ⟨fun h S _ => ⟨_, _, S _ hm, rfl⟩, ?_⟩
  intro base outer gd s Q E S H hret herr
  have hret9 := Hid.mk hret
  clear hret herr
  have X := H.X
  revert X; k_fill; intro X
  refine' enterL [(Str.ofString "s", .bytes bs t)] H (S _ hm) (S _ hmc) d1 d2 ?k8 ?k9 ?kB ?_ ?c2 ?c3 ?c4 ?c5
  k_dflt ((case k8 => k_room); (case k9 => exact rfl); (case c5 => decide); (case kB => exact locs rfl); (case c2 => exact rfl); (case c3 => exact rfl); (case c4 => exact rfl))
  clear H X
  intro L' h' tk' F' N' B' X' T'
  try dsimp only
  try k_fold
  (repeat' (first | (k_unfold; (try dsimp only)) | (first | with_reducible ((with_reducible show wpAny _ _ (call (Value.ref _) _ _) _ _ _); (k_here; ( ((with_reducible show wpAny _ _ (call (Value.ref 141) _ _) _ _ _); k_dflt (refine' encode_alt_use (by k_asm) (by k_asm) (by k_asm) (by k_asm) (by k_asm) (by exact rfl) (by exact rfl) (by exact rfl) (by exact rfl) (by exact Nat.le_of_ble_eq_true rfl) (by exact Nat.le_of_ble_eq_true rfl) (by assumption) ?_; k_whole; intro t9 h9 tk9 F9 N9; (try dsimp only); (try k_sweep)))))) | with_reducible ((with_reducible show ite _ _ _); first | (refine ite_pos (by ((try simp only [decide_eq_true_eq, beq_iff_eq, bne_iff_ne, ne_eq, Bool.not_eq_true']); omega)) ?_; walk_say "m ite +") | (refine ite_neg (by ((try simp only [decide_eq_true_eq, beq_iff_eq, bne_iff_ne, ne_eq, Bool.not_eq_true']); omega)) ?_; walk_say "m ite -")) | with_reducible ((with_reducible show InvEndN _ _ _ _ _ _ _); refine stop_here ?_)) | walk1 | (dsimp only; walk1) | (leave1; walk_say "STEP leave1"; try dsimp only) | fail "no step"))
  all_goals ((try k_unfold); (try dsimp only))
  rename Fr _ _ _ _ => nF
  exact hret9.out _ rfl _ _ _ nF.keep
end
section
/-- what a reader does for whatever it reads -/
structure Reads (w : World) (loose : List Str) (mean : ExcName → Option Value) (mg mb : Str → Option Value) (objs : List (Addr × Obj)) (fa : Addr) (alt : Option (Array UInt8)) (strict : Bool) : Prop where
  fn : ∀ h, Stand objs h → (hd.heap_1 w.params).In h → ∃ o fd, h.get? fa = some o ∧ o.data = .func fd
  go : ∀ (base : Heap) (outer : List Env) (gd : Option (List Code)) (s : Shared) (Q E : Value → Shared → Prop) (v : Value) (b : Array UInt8) (xs : List Int) (k : Nat), Stand objs s.heap → Here w loose mean mg mb (Aat 870 8700 outer gd) base outer s.heap →
    AsBytes v b → b.size ≤ 16777216 → Hid (Dec strict (decIn alt b) xs k) →
    Hid (∀ out, a2bOut strict xs k = .ok out → ∀ h' tk' t', Keeps s.heap h' → Q (.bytes (byteArr out) t') { s with heap := h', toks := tk' }) →
    Hid (∀ msg, a2bOut strict xs k = .error msg → ∀ e t' u h' tk', RaisedS base s.heap outer e (.ref 86) t' [.str msg u] [] h' → s.heap.UpToSlots h' → E (.ref e) { s with heap := h', toks := tk' }) →
    wpAny (model Challenge.rw_qh0096_01.row.prog w) (Aat 870 8700 outer gd) (call (.ref fa) [v]) Q E s
section
variable {w : World} {loose : List Str} {mean : ExcName → Option Value} {mg mb : Str → Option Value} {A₀ A : Around} {base h₀ : Heap} {outer : List Env} {s : Shared} {Q E : Value → Shared → Prop} {L : Addr} {m : Str → Option Value} {news : List (Addr × Obj)} {env : Env}
theorem decode_use {v av : Value} {rest : List Value} {b : Array UInt8} {alt : Option (Array UInt8)} {strict : Bool} {xs : List Int} {k : Nat} (B : Below A₀ base outer h₀) (F : Fr h₀ L s.heap m) (X : (hd.heap_1 w.params).In h₀) (N : News h₀ L s.heap news) (T : Top topProg loose mean mg mb h₀)
    (hA : A.frames = some (env :: outer)) (hf : env.frame = some L) (hk : env.scope.kind = .function) (hh : A.handled = none) (hd : A.depth ≤ 880) (hu : A.units ≤ 8800)
    (hv : AsBytes v b) (ha : DecArgs rest av alt strict) (hb : b.size ≤ 16777216) (hD : Hid (Dec strict (decIn alt b) xs k))
    (h : ∀ out, Hid (a2bOut strict xs k = .ok out) → ∀ t' h' tk', Fr h₀ L h' m → News h₀ L h' news → Q (.bytes (byteArr out) t') { s with heap := h', toks := tk' })
    (he : ∀ msg, Hid (a2bOut strict xs k = .error msg) → ∀ e t' u h' tk', RaisedS base s.heap (env :: outer) e (.ref 86) t' [.str msg u] [] h' → s.heap.UpToSlots h' → E (.ref e) { s with heap := h', toks := tk' }) :
    wpAny (model Challenge.rw_qh0096_01.row.prog w) A (call (.ref 149) (v :: rest)) Q E s :=
  wpAny_lower (b64decode_ok (Here.down B F X T rfl hf hk) hv ha hb hD ⟨fun out ho h' tk' t' k => h out ⟨ho⟩ t' h' tk' (frAfter F k) (newsAfter N k)⟩ ⟨fun msg hm e t' u h' tk' R U => he msg ⟨hm⟩ e t' u h' tk' R U⟩) hh hA hd hu
end
section
variable {M : Model} {A : Around} {E : Value → Shared → Prop} {s : Shared} {h₀ : Heap} {L a : Addr} {m : Str → Option Value} {cn : Str} {cs : Scope} {ccd : Value} {cl : List (Str × Addr)} {x : Str} {pos : Pos} {v : Value} {Q : Value → Shared → Prop} {c : Addr} {o : Obj}
theorem name_old (F : Fr h₀ L s.heap m) (hc : cl.lookup x = some c) (hg : h₀.get? c = some o) (hd : o.data = .cell (some v)) (h : Q v s)
    (hk : cs.kind = .function := by rfl) (hx : (envX cn cs L a ccd cl).kindOf x = some .free := by rfl) (hb : (x == ("__debug__" : Str)) = false := by decide) (hn : (x == ("__classdict__" : Str)) = false := by decide) :
    wpAny M A (eval (.Name x pos) (envX cn cs L a ccd cl)) Q E s := wpAny_Name (wpAny_loadName_free hk hx hc ⟨o, F.keep _ _ hg, hd⟩ h hn) hb
end
theorem leave_anyS {M : Model} {A : Around} {E : Value → Shared → Prop} {s' : Shared} {base g g₂ : Heap} {outer : List Env} {L e t : Addr} {m : Str → Option Value} {env : Env} {Q : Unit → Shared → Prop} {cls : Value} {vs : List Value}
    (hfe : env.frame = some L) (K : Below A base outer g) (F : Fr g L g₂ m) (R : RaisedS base g₂ (env :: outer) e cls t vs [] s'.heap) (hsm : g₂.UpToSlots s'.heap)
    (hQ : ∀ h', RaisedS base g outer e cls t vs [] h' → g.UpToSlots h' → Q () { s' with heap := h' }) : wpAny M (A.deeper env) (leaving env (.ref e)) Q E s' := by
  have hL := kts_self F
  obtain ⟨⟨B, hB, hg, _, hfl, hnew⟩, htup⟩ := R
  refine wpAny_leaves_onW (Around.frames_deeper K.stack) hfe hfl ?_
  intro h' fl us
  have U : g.UpToSlots h' := (Heap.UpToSlots.of_keeps F.keep).trans (hsm.trans us)
  have T' := htup.of_slots us
  refine hQ h' ⟨⟨B, hB, ?_, (by intro q hq; cases hq), fl, hnew⟩, T'⟩ U
  intro b o hb hn
  refine hg b o (F.keep b o hb) fun hm => ?_
  obtain ⟨v, hv, hvf⟩ := List.mem_filterMap.mp hm
  rcases List.mem_cons.mp hv with rfl | hv
  · rw [hfe] at hvf
    cases hvf
    rw [hL] at hb; cases hb
  · exact hn (List.mem_filterMap.mpr ⟨v, hv, hvf⟩)
abbrev lamScope (xs : List (Str × NameKind)) : Scope := { kind := .function, names := (Str.ofString "s", .local) :: (Str.ofString "b64decode", .globalImplicit) :: xs, isGenerator := false, isCoroutine := false }
abbrev lamScope2 : Scope := { kind := .function, names := [(Str.ofString "s", .local), (Str.ofString "two", .free), (Str.ofString "b64decode", .globalImplicit)], isGenerator := false, isCoroutine := false }
theorem lam_alt {w : World} {loose : List Str} {mean : ExcName → Option Value} {mg mb : Str → Option Value} {objs : List (Addr × Obj)} {f : Addr} {pp p1 p2 p3 p4 : Pos} {k : Nat} {u v : UInt8}
    (hl : LamIs objs f (lamArgs pp) (.Call (.Name (Str.ofString "b64decode") p1) [.Name (Str.ofString "s") p2, .Constant (.bytes [u, v]) k p3] [] p4) (lamScope []) []) : Reads w loose mean mg mb objs f (some #[u, v]) false := by
  obtain ⟨name, qual, pm, ctv, c', oc, vs', t', hm, hmc, d1, d2⟩ := hl.ex
  refine ⟨fun h S _ => ⟨_, _, S _ hm, rfl⟩, ?_⟩
  intro base outer gd s Q E x b xs k S H hv hb hD hret herr
  have X := H.X
  revert X; k_fill; intro X
  refine' enterL [(Str.ofString "s", x)] H (S _ hm) (S _ hmc) d1 d2 ?k8 ?k9 ?kB ?_ ?c2 ?c3 ?c4 ?c5
  k_dflt ((case k8 => k_room); (case k9 => exact rfl); (case c5 => decide); (case kB => exact locs rfl); (case c2 => exact rfl); (case c3 => exact rfl); (case c4 => exact rfl))
  clear H X
  intro L' h' tk' F' N' B' X' T'
  try dsimp only
  try k_fold
  (repeat' (first | (k_unfold; (try dsimp only)) | (first | with_reducible ((with_reducible show wpAny _ _ (eval (Expr.Name _ _) _) _ _ _); (k_here; k_dflt (refine' name_old (by k_asm) (by rfl) (by assumption) (by assumption) ?_ (by rfl) (by rfl); k_whole))) | with_reducible ((with_reducible show wpAny _ _ (leaving _ (Value.ref _)) _ _ _); (k_here; (refine' leave_anyS (by exact rfl) (by assumption) (by assumption) (by assumption) (by assumption) ?_; k_whole; intro h' R' U'; (try dsimp only at R' U' ⊢)))) | with_reducible ((with_reducible show wpAny _ _ (leaving _ (Value.ref _)) _ _ _); (k_here; (refine' leave_onS (by assumption) (by assumption) (by assumption) (by assumption) ?_; k_whole; intro h' S' R' U'; (try dsimp only at S' R' U' ⊢)))) | with_reducible ((with_reducible show wpAny _ _ (call (Value.ref _) _ _) _ _ _); (k_here; ((with_reducible show wpAny _ _ (call (Value.ref 149) _ _) _ _ _); k_dflt (refine' decode_use (by k_asm) (by k_asm) (by k_asm) (by k_asm) (by k_asm) (by exact rfl) (by exact rfl) (by exact rfl) (by exact rfl) (by exact Nat.le_of_ble_eq_true rfl) (by exact Nat.le_of_ble_eq_true rfl) (by assumption) (by first | exact .alt (.bytes _ _) rfl | exact .altT (.bytes _ _) rfl | exact .noneT | exact .alt (by assumption) (by assumption) | exact .altT (by assumption) (by assumption)) (by assumption) (by assumption) ?_ ?_; k_whole; first | (intro o9 ho9 t9 h9 tk9 F9 N9; (try dsimp only); (try k_sweep)) | (intro o9 ho9 e9 t9 u9 h9 tk9 R9 U9; (try dsimp only)))))) | with_reducible ((with_reducible show ite _ _ _); first | (refine ite_pos (by ((try simp only [decide_eq_true_eq, beq_iff_eq, bne_iff_ne, ne_eq, Bool.not_eq_true']); omega)) ?_; walk_say "m ite +") | (refine ite_neg (by ((try simp only [decide_eq_true_eq, beq_iff_eq, bne_iff_ne, ne_eq, Bool.not_eq_true']); omega)) ?_; walk_say "m ite -")) | with_reducible ((with_reducible show InvEndN _ _ _ _ _ _ _); refine stop_here ?_)) | walk1 | (dsimp only; walk1) | (leave1; walk_say "STEP leave1"; try dsimp only) | fail "no step"))
  all_goals first
    | (rename RaisedS _ _ _ _ _ _ _ _ _ => rS; rename Heap.UpToSlots _ _ => rU; rename Hid (a2bOut _ _ _ = .error _) => hm; exact herr.out _ hm.out _ _ _ _ _ rS rU)
    | ((try k_unfold); (try dsimp only); rename Fr _ _ _ _ => nF; rename Hid (a2bOut _ _ _ = .ok _) => hm; exact hret.out _ hm.out _ _ _ nF.keep)
theorem lam_altT {w : World} {loose : List Str} {mean : ExcName → Option Value} {mg mb : Str → Option Value} {objs : List (Addr × Obj)} {f : Addr} {pp p1 p2 p3 p4 : Pos} {k : Nat} {u v : UInt8} {p5 : Pos} {k5 : Nat}
    (hl : LamIs objs f (lamArgs pp) (.Call (.Name (Str.ofString "b64decode") p1) [.Name (Str.ofString "s") p2, .Constant (.bytes [u, v]) k p3, .Constant (.bool true) k5 p5] [] p4) (lamScope []) []) : Reads w loose mean mg mb objs f (some #[u, v]) true := by
  obtain ⟨name, qual, pm, ctv, c', oc, vs', t', hm, hmc, d1, d2⟩ := hl.ex
  refine ⟨fun h S _ => ⟨_, _, S _ hm, rfl⟩, ?_⟩
  intro base outer gd s Q E x b xs k S H hv hb hD hret herr
  have X := H.X
  revert X; k_fill; intro X
  refine' enterL [(Str.ofString "s", x)] H (S _ hm) (S _ hmc) d1 d2 ?k8 ?k9 ?kB ?_ ?c2 ?c3 ?c4 ?c5
  k_dflt ((case k8 => k_room); (case k9 => exact rfl); (case c5 => decide); (case kB => exact locs rfl); (case c2 => exact rfl); (case c3 => exact rfl); (case c4 => exact rfl))
  clear H X
  intro L' h' tk' F' N' B' X' T'
  try dsimp only
  try k_fold
  (repeat' (first | (k_unfold; (try dsimp only)) | (first | with_reducible ((with_reducible show wpAny _ _ (eval (Expr.Name _ _) _) _ _ _); (k_here; k_dflt (refine' name_old (by k_asm) (by rfl) (by assumption) (by assumption) ?_ (by rfl) (by rfl); k_whole))) | with_reducible ((with_reducible show wpAny _ _ (leaving _ (Value.ref _)) _ _ _); (k_here; (refine' leave_anyS (by exact rfl) (by assumption) (by assumption) (by assumption) (by assumption) ?_; k_whole; intro h' R' U'; (try dsimp only at R' U' ⊢)))) | with_reducible ((with_reducible show wpAny _ _ (leaving _ (Value.ref _)) _ _ _); (k_here; (refine' leave_onS (by assumption) (by assumption) (by assumption) (by assumption) ?_; k_whole; intro h' S' R' U'; (try dsimp only at S' R' U' ⊢)))) | with_reducible ((with_reducible show wpAny _ _ (call (Value.ref _) _ _) _ _ _); (k_here; ((with_reducible show wpAny _ _ (call (Value.ref 149) _ _) _ _ _); k_dflt (refine' decode_use (by k_asm) (by k_asm) (by k_asm) (by k_asm) (by k_asm) (by exact rfl) (by exact rfl) (by exact rfl) (by exact rfl) (by exact Nat.le_of_ble_eq_true rfl) (by exact Nat.le_of_ble_eq_true rfl) (by assumption) (by first | exact .alt (.bytes _ _) rfl | exact .altT (.bytes _ _) rfl | exact .noneT | exact .alt (by assumption) (by assumption) | exact .altT (by assumption) (by assumption)) (by assumption) (by assumption) ?_ ?_; k_whole; first | (intro o9 ho9 t9 h9 tk9 F9 N9; (try dsimp only); (try k_sweep)) | (intro o9 ho9 e9 t9 u9 h9 tk9 R9 U9; (try dsimp only)))))) | with_reducible ((with_reducible show ite _ _ _); first | (refine ite_pos (by ((try simp only [decide_eq_true_eq, beq_iff_eq, bne_iff_ne, ne_eq, Bool.not_eq_true']); omega)) ?_; walk_say "m ite +") | (refine ite_neg (by ((try simp only [decide_eq_true_eq, beq_iff_eq, bne_iff_ne, ne_eq, Bool.not_eq_true']); omega)) ?_; walk_say "m ite -")) | with_reducible ((with_reducible show InvEndN _ _ _ _ _ _ _); refine stop_here ?_)) | walk1 | (dsimp only; walk1) | (leave1; walk_say "STEP leave1"; try dsimp only) | fail "no step"))
  all_goals first
    | (rename RaisedS _ _ _ _ _ _ _ _ _ => rS; rename Heap.UpToSlots _ _ => rU; rename Hid (a2bOut _ _ _ = .error _) => hm; exact herr.out _ hm.out _ _ _ _ _ rS rU)
    | ((try k_unfold); (try dsimp only); rename Fr _ _ _ _ => nF; rename Hid (a2bOut _ _ _ = .ok _) => hm; exact hret.out _ hm.out _ _ _ nF.keep)
theorem lam_noneT {w : World} {loose : List Str} {mean : ExcName → Option Value} {mg mb : Str → Option Value} {objs : List (Addr × Obj)} {f : Addr} {pp p1 p2 p3 p4 : Pos} {k : Nat} {u v : UInt8} {p5 : Pos} {k5 : Nat}
    (hl : LamIs objs f (lamArgs pp) (.Call (.Name (Str.ofString "b64decode") p1) [.Name (Str.ofString "s") p2, .Constant .none k p3, .Constant (.bool true) k5 p5] [] p4) (lamScope []) []) : Reads w loose mean mg mb objs f none true := by
  obtain ⟨name, qual, pm, ctv, c', oc, vs', t', hm, hmc, d1, d2⟩ := hl.ex
  refine ⟨fun h S _ => ⟨_, _, S _ hm, rfl⟩, ?_⟩
  intro base outer gd s Q E x b xs k S H hv hb hD hret herr
  have X := H.X
  revert X; k_fill; intro X
  refine' enterL [(Str.ofString "s", x)] H (S _ hm) (S _ hmc) d1 d2 ?k8 ?k9 ?kB ?_ ?c2 ?c3 ?c4 ?c5
  k_dflt ((case k8 => k_room); (case k9 => exact rfl); (case c5 => decide); (case kB => exact locs rfl); (case c2 => exact rfl); (case c3 => exact rfl); (case c4 => exact rfl))
  clear H X
  intro L' h' tk' F' N' B' X' T'
  try dsimp only
  try k_fold
  (repeat' (first | (k_unfold; (try dsimp only)) | (first | with_reducible ((with_reducible show wpAny _ _ (eval (Expr.Name _ _) _) _ _ _); (k_here; k_dflt (refine' name_old (by k_asm) (by rfl) (by assumption) (by assumption) ?_ (by rfl) (by rfl); k_whole))) | with_reducible ((with_reducible show wpAny _ _ (leaving _ (Value.ref _)) _ _ _); (k_here; (refine' leave_anyS (by exact rfl) (by assumption) (by assumption) (by assumption) (by assumption) ?_; k_whole; intro h' R' U'; (try dsimp only at R' U' ⊢)))) | with_reducible ((with_reducible show wpAny _ _ (leaving _ (Value.ref _)) _ _ _); (k_here; (refine' leave_onS (by assumption) (by assumption) (by assumption) (by assumption) ?_; k_whole; intro h' S' R' U'; (try dsimp only at S' R' U' ⊢)))) | with_reducible ((with_reducible show wpAny _ _ (call (Value.ref _) _ _) _ _ _); (k_here; ((with_reducible show wpAny _ _ (call (Value.ref 149) _ _) _ _ _); k_dflt (refine' decode_use (by k_asm) (by k_asm) (by k_asm) (by k_asm) (by k_asm) (by exact rfl) (by exact rfl) (by exact rfl) (by exact rfl) (by exact Nat.le_of_ble_eq_true rfl) (by exact Nat.le_of_ble_eq_true rfl) (by assumption) (by first | exact .alt (.bytes _ _) rfl | exact .altT (.bytes _ _) rfl | exact .noneT | exact .alt (by assumption) (by assumption) | exact .altT (by assumption) (by assumption)) (by assumption) (by assumption) ?_ ?_; k_whole; first | (intro o9 ho9 t9 h9 tk9 F9 N9; (try dsimp only); (try k_sweep)) | (intro o9 ho9 e9 t9 u9 h9 tk9 R9 U9; (try dsimp only)))))) | with_reducible ((with_reducible show ite _ _ _); first | (refine ite_pos (by ((try simp only [decide_eq_true_eq, beq_iff_eq, bne_iff_ne, ne_eq, Bool.not_eq_true']); omega)) ?_; walk_say "m ite +") | (refine ite_neg (by ((try simp only [decide_eq_true_eq, beq_iff_eq, bne_iff_ne, ne_eq, Bool.not_eq_true']); omega)) ?_; walk_say "m ite -")) | with_reducible ((with_reducible show InvEndN _ _ _ _ _ _ _); refine stop_here ?_)) | walk1 | (dsimp only; walk1) | (leave1; walk_say "STEP leave1"; try dsimp only) | fail "no step"))
  all_goals first
    | (rename RaisedS _ _ _ _ _ _ _ _ _ => rS; rename Heap.UpToSlots _ _ => rU; rename Hid (a2bOut _ _ _ = .error _) => hm; exact herr.out _ hm.out _ _ _ _ _ rS rU)
    | ((try k_unfold); (try dsimp only); rename Fr _ _ _ _ => nF; rename Hid (a2bOut _ _ _ = .ok _) => hm; exact hret.out _ hm.out _ _ _ nF.keep)
theorem lam_two {w : World} {loose : List Str} {mean : ExcName → Option Value} {mg mb : Str → Option Value} {objs : List (Addr × Obj)} {f : Addr} {pp p1 p2 p3 p4 : Pos} {k : Nat} {u v : UInt8} {c : Addr} {o : Obj} {tv : Value} {tb : Array UInt8}
    (hl : LamIs objs f (lamArgs pp) (.Call (.Name (Str.ofString "b64decode") p1) [.Name (Str.ofString "s") p2, .Name (Str.ofString "two") p3] [] p4) lamScope2 [(Str.ofString "two", c)]) (hc : (c, o) ∈ objs) (hd : o.data = .cell (some tv)) (htv : AsBytes tv tb) (ht2 : tb.size = 2) : Reads w loose mean mg mb objs f (some tb) false := by
  obtain ⟨name, qual, pm, ctv, c', oc, vs', t', hm, hmc, d1, d2⟩ := hl.ex
  refine ⟨fun h S _ => ⟨_, _, S _ hm, rfl⟩, ?_⟩
  intro base outer gd s Q E x b xs k S H hv hb hD hret herr
  have hget := S _ hc
  dsimp only at hget
  have X := H.X
  revert X; k_fill; intro X
  refine' enterL [(Str.ofString "s", x)] H (S _ hm) (S _ hmc) d1 d2 ?k8 ?k9 ?kB ?_ ?c2 ?c3 ?c4 ?c5
  k_dflt ((case k8 => k_room); (case k9 => exact rfl); (case c5 => decide); (case kB => exact locs rfl); (case c2 => exact rfl); (case c3 => exact rfl); (case c4 => exact rfl))
  clear H X
  intro L' h' tk' F' N' B' X' T'
  try dsimp only
  try k_fold
  (repeat' (first | (k_unfold; (try dsimp only)) | (first | with_reducible ((with_reducible show wpAny _ _ (eval (Expr.Name _ _) _) _ _ _); (k_here; k_dflt (refine' name_old (by k_asm) (by rfl) (by assumption) (by assumption) ?_ (by rfl) (by rfl); k_whole))) | with_reducible ((with_reducible show wpAny _ _ (leaving _ (Value.ref _)) _ _ _); (k_here; (refine' leave_anyS (by exact rfl) (by assumption) (by assumption) (by assumption) (by assumption) ?_; k_whole; intro h' R' U'; (try dsimp only at R' U' ⊢)))) | with_reducible ((with_reducible show wpAny _ _ (leaving _ (Value.ref _)) _ _ _); (k_here; (refine' leave_onS (by assumption) (by assumption) (by assumption) (by assumption) ?_; k_whole; intro h' S' R' U'; (try dsimp only at S' R' U' ⊢)))) | with_reducible ((with_reducible show wpAny _ _ (call (Value.ref _) _ _) _ _ _); (k_here; ((with_reducible show wpAny _ _ (call (Value.ref 149) _ _) _ _ _); k_dflt (refine' decode_use (by k_asm) (by k_asm) (by k_asm) (by k_asm) (by k_asm) (by exact rfl) (by exact rfl) (by exact rfl) (by exact rfl) (by exact Nat.le_of_ble_eq_true rfl) (by exact Nat.le_of_ble_eq_true rfl) (by assumption) (by first | exact .alt (.bytes _ _) rfl | exact .altT (.bytes _ _) rfl | exact .noneT | exact .alt (by assumption) (by assumption) | exact .altT (by assumption) (by assumption)) (by assumption) (by assumption) ?_ ?_; k_whole; first | (intro o9 ho9 t9 h9 tk9 F9 N9; (try dsimp only); (try k_sweep)) | (intro o9 ho9 e9 t9 u9 h9 tk9 R9 U9; (try dsimp only)))))) | with_reducible ((with_reducible show ite _ _ _); first | (refine ite_pos (by ((try simp only [decide_eq_true_eq, beq_iff_eq, bne_iff_ne, ne_eq, Bool.not_eq_true']); omega)) ?_; walk_say "m ite +") | (refine ite_neg (by ((try simp only [decide_eq_true_eq, beq_iff_eq, bne_iff_ne, ne_eq, Bool.not_eq_true']); omega)) ?_; walk_say "m ite -")) | with_reducible ((with_reducible show InvEndN _ _ _ _ _ _ _); refine stop_here ?_)) | walk1 | (dsimp only; walk1) | (leave1; walk_say "STEP leave1"; try dsimp only) | fail "no step"))
  all_goals first
    | (rename RaisedS _ _ _ _ _ _ _ _ _ => rS; rename Heap.UpToSlots _ _ => rU; rename Hid (a2bOut _ _ _ = .error _) => hm; exact herr.out _ hm.out _ _ _ _ _ rS rU)
    | ((try k_unfold); (try dsimp only); rename Fr _ _ _ _ => nF; rename Hid (a2bOut _ _ _ = .ok _) => hm; exact hret.out _ hm.out _ _ _ nF.keep)
theorem lam_twoT {w : World} {loose : List Str} {mean : ExcName → Option Value} {mg mb : Str → Option Value} {objs : List (Addr × Obj)} {f : Addr} {pp p1 p2 p3 p4 : Pos} {k : Nat} {u v : UInt8} {c : Addr} {o : Obj} {tv : Value} {tb : Array UInt8} {p5 : Pos} {k5 : Nat}
    (hl : LamIs objs f (lamArgs pp) (.Call (.Name (Str.ofString "b64decode") p1) [.Name (Str.ofString "s") p2, .Name (Str.ofString "two") p3, .Constant (.bool true) k5 p5] [] p4) lamScope2 [(Str.ofString "two", c)]) (hc : (c, o) ∈ objs) (hd : o.data = .cell (some tv)) (htv : AsBytes tv tb) (ht2 : tb.size = 2) : Reads w loose mean mg mb objs f (some tb) true := by
  obtain ⟨name, qual, pm, ctv, c', oc, vs', t', hm, hmc, d1, d2⟩ := hl.ex
  refine ⟨fun h S _ => ⟨_, _, S _ hm, rfl⟩, ?_⟩
  intro base outer gd s Q E x b xs k S H hv hb hD hret herr
  have hget := S _ hc
  dsimp only at hget
  have X := H.X
  revert X; k_fill; intro X
  refine' enterL [(Str.ofString "s", x)] H (S _ hm) (S _ hmc) d1 d2 ?k8 ?k9 ?kB ?_ ?c2 ?c3 ?c4 ?c5
  k_dflt ((case k8 => k_room); (case k9 => exact rfl); (case c5 => decide); (case kB => exact locs rfl); (case c2 => exact rfl); (case c3 => exact rfl); (case c4 => exact rfl))
  clear H X
  intro L' h' tk' F' N' B' X' T'
  try dsimp only
  try k_fold
  (repeat' (first | (k_unfold; (try dsimp only)) | (first | with_reducible ((with_reducible show wpAny _ _ (eval (Expr.Name _ _) _) _ _ _); (k_here; k_dflt (refine' name_old (by k_asm) (by rfl) (by assumption) (by assumption) ?_ (by rfl) (by rfl); k_whole))) | with_reducible ((with_reducible show wpAny _ _ (leaving _ (Value.ref _)) _ _ _); (k_here; (refine' leave_anyS (by exact rfl) (by assumption) (by assumption) (by assumption) (by assumption) ?_; k_whole; intro h' R' U'; (try dsimp only at R' U' ⊢)))) | with_reducible ((with_reducible show wpAny _ _ (leaving _ (Value.ref _)) _ _ _); (k_here; (refine' leave_onS (by assumption) (by assumption) (by assumption) (by assumption) ?_; k_whole; intro h' S' R' U'; (try dsimp only at S' R' U' ⊢)))) | with_reducible ((with_reducible show wpAny _ _ (call (Value.ref _) _ _) _ _ _); (k_here; ((with_reducible show wpAny _ _ (call (Value.ref 149) _ _) _ _ _); k_dflt (refine' decode_use (by k_asm) (by k_asm) (by k_asm) (by k_asm) (by k_asm) (by exact rfl) (by exact rfl) (by exact rfl) (by exact rfl) (by exact Nat.le_of_ble_eq_true rfl) (by exact Nat.le_of_ble_eq_true rfl) (by assumption) (by first | exact .alt (.bytes _ _) rfl | exact .altT (.bytes _ _) rfl | exact .noneT | exact .alt (by assumption) (by assumption) | exact .altT (by assumption) (by assumption)) (by assumption) (by assumption) ?_ ?_; k_whole; first | (intro o9 ho9 t9 h9 tk9 F9 N9; (try dsimp only); (try k_sweep)) | (intro o9 ho9 e9 t9 u9 h9 tk9 R9 U9; (try dsimp only)))))) | with_reducible ((with_reducible show ite _ _ _); first | (refine ite_pos (by ((try simp only [decide_eq_true_eq, beq_iff_eq, bne_iff_ne, ne_eq, Bool.not_eq_true']); omega)) ?_; walk_say "m ite +") | (refine ite_neg (by ((try simp only [decide_eq_true_eq, beq_iff_eq, bne_iff_ne, ne_eq, Bool.not_eq_true']); omega)) ?_; walk_say "m ite -")) | with_reducible ((with_reducible show InvEndN _ _ _ _ _ _ _); refine stop_here ?_)) | walk1 | (dsimp only; walk1) | (leave1; walk_say "STEP leave1"; try dsimp only) | fail "no step"))
  all_goals first
    | (rename RaisedS _ _ _ _ _ _ _ _ _ => rS; rename Heap.UpToSlots _ _ => rU; rename Hid (a2bOut _ _ _ = .error _) => hm; exact herr.out _ hm.out _ _ _ _ _ rS rU)
    | ((try k_unfold); (try dsimp only); rename Fr _ _ _ _ => nF; rename Hid (a2bOut _ _ _ = .ok _) => hm; exact hret.out _ hm.out _ _ _ nF.keep)
end
section
/-! plain: what a reader makes of a listing -/
theorem fold_oct : ∀ (fs acc : List Int), (∀ f ∈ fs, 0 ≤ f ∧ f < 64) → (fs.foldl stp (0, 0, acc)).2.2 = acc ++ octsM fs
  | a :: b :: c :: d :: r, acc, h => by
    have ha := h a (by simp); have hb := h b (by simp); have hc := h c (by simp); have hd := h d (by simp)
    have ih := fold_oct r (acc ++ [a * 4 + b / 16] ++ [b % 16 * 16 + c / 4] ++ [c % 4 * 64 + d]) fun f hf => h f (by simp [hf])
    have e : (a :: b :: c :: d :: r).foldl stp (0, 0, acc) = r.foldl stp (0, 0, acc ++ [a * 4 + b / 16] ++ [b % 16 * 16 + c / 4] ++ [c % 4 * 64 + d]) := by
      simp [stp]
    rw [e, ih]
    have e1 : (((a * 64 + b) * 64 + c) * 64 + d) / 65536 = a * 4 + b / 16 := by omega
    have e2 : (((a * 64 + b) * 64 + c) * 64 + d) / 256 % 256 = b % 16 * 16 + c / 4 := by omega
    have e3 : (((a * 64 + b) * 64 + c) * 64 + d) % 256 = c % 4 * 64 + d := by omega
    simp only [octsM, e1, e2, e3, List.append_assoc, List.cons_append, List.nil_append]
  | [a, b, c], acc, h => by
    have ha := h a (by simp); have hb := h b (by simp); have hc := h c (by simp)
    have e1 : (((a * 64 + b) * 64 + c) * 64) / 65536 = a * 4 + b / 16 := by omega
    have e2 : (((a * 64 + b) * 64 + c) * 64) / 256 % 256 = b % 16 * 16 + c / 4 := by omega
    simp [stp, octsM, e1, e2]
  | [a, b], acc, h => by
    have ha := h a (by simp); have hb := h b (by simp)
    have e1 : (((a * 64 + b) * 64) * 64) / 65536 = a * 4 + b / 16 := by omega
    simp [stp, octsM, e1]
  | [a], acc, h => by simp [stp, octsM]
  | [], acc, h => by simp [octsM]
theorem octs_fold {fs : List Int} (h : ∀ f ∈ fs, 0 ≤ f ∧ f < 64) : (fold6 fs).2.2 = octsM fs := by
  have := fold_oct fs [] h
  simpa [fold6] using this
/-- the code that a reader sees at a sign -/
def dcode (p q f : Int) : Int := if f = q then 47 else if f = p then 43 else (sgnC f : Int)
theorem sgn_fin : ∀ x : Fin 64, sgnC (x.val : Int) < 128 ∧ sgnC (x.val : Int) ≠ 61 ∧ sgnC (x.val : Int) ≠ 43 ∧ sgnC (x.val : Int) ≠ 47 ∧ (x.val < 62 → b64v (sgnC (x.val : Int)) = (x.val : Int)) ∧ (¬ x.val < 62 → b64v (sgnC (x.val : Int)) = 64) := by decide +kernel
theorem sgn_at {f : Int} (h : 0 ≤ f ∧ f < 64) : sgnC f < 128 ∧ sgnC f ≠ 61 ∧ sgnC f ≠ 43 ∧ sgnC f ≠ 47 ∧ (f < 62 → b64v (sgnC f) = f) ∧ (¬ f < 62 → b64v (sgnC f) = 64) := by
  have := sgn_fin ⟨f.toNat, by omega⟩
  have e : ((⟨f.toNat, by omega⟩ : Fin 64).val : Int) = f := by show (f.toNat : Int) = f; omega
  rw [e] at this
  obtain ⟨h1, h2, h3, h4, h5, h6⟩ := this
  exact ⟨h1, h2, h3, h4, fun h => h5 (by show f.toNat < 62; omega), fun h => h6 (by show ¬ f.toNat < 62; omega)⟩
theorem sgn_inj_fin : ∀ x y : Fin 64, sgnC (x.val : Int) = sgnC (y.val : Int) → x = y := by decide +kernel
theorem sgn_inj {f g : Int} (h : 0 ≤ f ∧ f < 64) (h2 : 0 ≤ g ∧ g < 64) (e : sgnC f = sgnC g) : f = g := by
  have := sgn_inj_fin ⟨f.toNat, by omega⟩ ⟨g.toNat, by omega⟩ (by
    show sgnC (f.toNat : Int) = sgnC (g.toNat : Int)
    rw [show (f.toNat : Int) = f by omega, show (g.toNat : Int) = g by omega]; exact e)
  have h3 : f.toNat = g.toNat := congrArg Fin.val this
  omega
theorem good_code {p q f : Int} (h : 0 ≤ f ∧ f < 64) : good (dcode p q f) = shownP p q f ∧ (shownP p q f = true → b64v (dcode p q f) = shownF p q f) ∧ dcode p q f ≠ 61 := by
  obtain ⟨_, h2, _, _, h5, h6⟩ := sgn_at h
  unfold dcode shownP shownF
  by_cases hq : f = q
  · rw [if_pos hq, if_pos hq]
    exact ⟨by simp [hq]; decide +kernel, fun _ => by decide +kernel, by decide⟩
  · rw [if_neg hq, if_neg hq]
    by_cases hp : f = p
    · rw [if_pos hp, if_pos hp]
      exact ⟨by simp [hp]; decide +kernel, fun _ => by decide +kernel, by decide⟩
    · rw [if_neg hp, if_neg hp]
      have h2' : (sgnC f : Int) ≠ 61 := by omega
      by_cases hf : f < 62
      · rw [show good (sgnC f : Int) = true by simp [good, h2', h5 hf]; omega]
        exact ⟨by simp [hf], fun _ => h5 hf, h2'⟩
      · rw [show good (sgnC f : Int) = false by simp [good, h6 hf]]
        exact ⟨by simp [hf, hp, hq], fun e => by simp [hf, hp, hq] at e, h2'⟩
theorem vals_code {p q : Int} : ∀ {fs : List Int}, (∀ f ∈ fs, 0 ≤ f ∧ f < 64) → vals (fs.map (dcode p q)) = shownM p q fs
  | [], _ => rfl
  | f :: r, h => by
    have ih := vals_code (p := p) (q := q) (fs := r) fun g hg => h g (.tail _ hg)
    obtain ⟨h1, h2, _⟩ := good_code (p := p) (q := q) (h f (.head _))
    unfold vals shownM at ih ⊢
    rw [List.map_cons, List.filter_cons, List.filter_cons, h1]
    cases hs : shownP p q f with
    | false => simpa using ih
    | true =>
      simp only [if_true, List.map_cons]
      rw [ih, h2 hs]
theorem any_code {p q : Int} : ∀ {fs : List Int}, (∀ f ∈ fs, 0 ≤ f ∧ f < 64) → ((fs.map (dcode p q)).any (fun x => decide (64 ≤ b64v x)) = true ↔ (shownM p q fs).length < fs.length)
  | [], _ => by simp [shownM]
  | f :: r, h => by
    have ih := any_code (p := p) (q := q) (fs := r) fun g hg => h g (.tail _ hg)
    obtain ⟨h1, _, h3⟩ := good_code (p := p) (q := q) (h f (.head _))
    have hl : (shownM p q r).length ≤ r.length := shown_len
    have hg : good (dcode p q f) = decide (b64v (dcode p q f) < 64) := by simp [good, h3]
    rw [List.map_cons, List.any_cons, Bool.or_eq_true, ih]
    unfold shownM at hl ⊢
    rw [List.filter_cons, ← h1, hg]
    by_cases hb : b64v (dcode p q f) < 64
    · have : ¬ 64 ≤ b64v (dcode p q f) := by omega
      simp only [hb, this, decide_true, decide_false, if_true, List.map_cons, List.length_cons, Bool.false_eq_true, false_or]
      omega
    · have : 64 ≤ b64v (dcode p q f) := by omega
      simp only [hb, this, decide_true, decide_false, Bool.false_eq_true, if_false, List.length_cons, true_or, true_iff]
      omega
end
section
/-! plain: tables, and what the readers answer -/
def toB (r : Except Str (List Int)) : Except Str (Array UInt8) := match r with | .ok o => .ok (byteArr o) | .error m => .error m
theorem out_core {p q : Int} {fs : List Int} (h : ∀ f ∈ fs, 0 ≤ f ∧ f < 64) (k : Nat) (st : Bool) :
    toB (a2bOut st (fs.map (dcode p q)) k) = (if st = true ∧ (shownM p q fs).length < fs.length then .error (Str.ofString "Only base64 data is allowed") else
      if (shownM p q fs).length % 4 ≠ 0 ∧ (shownM p q fs).length % 4 ≠ 1 ∧ (shownM p q fs).length % 4 + k < 4 then .error (Str.ofString "Incorrect padding") else dueE (shownM p q fs)) := by
  have hv := vals_code (p := p) (q := q) h
  have ha := any_code (p := p) (q := q) h
  have hs := shown_in (p := p) (q := q) h
  unfold a2bOut
  rw [hv, octs_fold hs]
  by_cases h1 : st = true ∧ (shownM p q fs).length < fs.length
  · rw [if_pos ⟨h1.1, ha.mpr h1.2⟩, if_pos h1]; rfl
  · rw [if_neg (fun z => h1 ⟨z.1, ha.mp z.2⟩), if_neg h1]
    clear ha h1 hv hs
    generalize shownM p q fs = sh
    by_cases h2 : sh.length % 4 = 1
    · rw [if_pos h2, if_neg (by omega)]
      unfold dueE
      rw [if_pos h2]; rfl
    · rw [if_neg h2]
      by_cases h3 : sh.length % 4 ≠ 0 ∧ sh.length % 4 + k < 4
      · rw [if_pos h3, if_pos ⟨h3.1, h2, h3.2⟩]; rfl
      · rw [if_neg h3, if_neg (by omega)]
        unfold dueE
        rw [if_neg h2]; rfl
theorem core_bare (sh : List Int) : (if sh.length % 4 ≠ 0 ∧ sh.length % 4 ≠ 1 ∧ sh.length % 4 + 0 < 4 then .error (Str.ofString "Incorrect padding") else dueE sh) = bareE sh := by
  unfold bareE
  by_cases h : sh.length % 4 < 2
  · rw [if_neg (by omega), if_pos h]
  · rw [if_pos (by omega), if_neg h]
theorem core_due (sh : List Int) : (if sh.length % 4 ≠ 0 ∧ sh.length % 4 ≠ 1 ∧ sh.length % 4 + padK (sh.length % 4) < 4 then .error (Str.ofString "Incorrect padding") else dueE sh) = dueE sh := by
  rw [if_neg]
  unfold padK
  split
  · omega
  · split <;> omega
theorem out_loose0 {p q : Int} {fs : List Int} (h : ∀ f ∈ fs, 0 ≤ f ∧ f < 64) : toB (a2bOut false (fs.map (dcode p q)) 0) = bareE (shownM p q fs) := by
  rw [out_core h, if_neg (by simp), core_bare]
theorem out_loosek {p q : Int} {fs : List Int} (h : ∀ f ∈ fs, 0 ≤ f ∧ f < 64) : toB (a2bOut false (fs.map (dcode p q)) (padK ((shownM p q fs).length % 4))) = dueE (shownM p q fs) := by
  rw [out_core h, if_neg (by simp), core_due]
theorem out_strict0 {p q : Int} {fs : List Int} (h : ∀ f ∈ fs, 0 ≤ f ∧ f < 64) : toB (a2bOut true (fs.map (dcode p q)) 0) = onlyE fs.length (shownM p q fs) (bareE (shownM p q fs)) := by
  rw [out_core h, core_bare]; unfold onlyE; simp only [true_and]
theorem out_strictk {p q : Int} {fs : List Int} (h : ∀ f ∈ fs, 0 ≤ f ∧ f < 64) : toB (a2bOut true (fs.map (dcode p q)) (padK ((shownM p q fs).length % 4))) = onlyE fs.length (shownM p q fs) (dueE (shownM p q fs)) := by
  rw [out_core h, core_due]; unfold onlyE; simp only [true_and]
theorem tab_at (a b c d : UInt8) {n : Nat} (hn : n < 256) (x : UInt8) : (mkTrans #[a, b] #[c, d]).getD n x = if n = b.toNat then d else if n = a.toNat then c else n.toUInt8 := by
  have e : mkTrans #[a, b] #[c, d] = (((Array.range 256).map (·.toUInt8)).setIfInBounds a.toNat c).setIfInBounds b.toNat d := rfl
  have ha : a.toNat < 256 := a.toNat_lt
  have hb : b.toNat < 256 := b.toNat_lt
  rw [e, Array.getD_eq_getD_getElem?, Array.getElem?_setIfInBounds]
  by_cases h1 : b.toNat = n
  · rw [if_pos h1, if_pos h1.symm]
    simp [hb]
  · rw [if_neg h1, if_neg fun h => h1 h.symm, Array.getElem?_setIfInBounds]
    by_cases h2 : a.toNat = n
    · rw [if_pos h2, if_pos h2.symm]
      simp [ha]
    · rw [if_neg h2, if_neg fun h => h2 h.symm]
      simp [hn]
theorem toU8_nat {n : Nat} (h : n < 256) : n.toUInt8.toNat = n := by simp [Nat.mod_eq_of_lt h]
theorem bints_ascii {x : Str} (h : ∀ c ∈ x.cps.toList, c < 128) : KBw.bInts (asciiOf x) = x.cps.toList.map (fun n : Nat => (n : Int)) := by
  unfold KBw.bInts asciiOf
  rw [Array.toList_map, List.map_map]
  refine List.map_congr_left fun c hc => ?_
  show ((c.toUInt8.toNat : Nat) : Int) = c
  rw [toU8_nat (by have := h c hc; omega)]
theorem bints_trans {T : Array UInt8} {x : Str} (h : ∀ c ∈ x.cps.toList, c < 128) : KBw.bInts (trans T (asciiOf x)) = x.cps.toList.map (fun n : Nat => ((T.getD n n.toUInt8).toNat : Int)) := by
  unfold KBw.bInts trans asciiOf
  rw [Array.toList_map, Array.toList_map, List.map_map, List.map_map]
  refine List.map_congr_left fun c hc => ?_
  show (((T.getD c.toUInt8.toNat c.toUInt8).toNat : Nat) : Int) = _
  rw [toU8_nat (by have := h c hc; omega)]
/-- which figures a table shows as 62 and 63 -/
inductive AltIs : Option (Array UInt8) → Int → Int → Prop where
  | none : AltIs none 64 64
  | some (a b : UInt8) (p q : Int) (ha : ∀ f : Int, 0 ≤ f ∧ f < 64 → (sgnC f = a.toNat ↔ f = p)) (hb : ∀ f : Int, 0 ≤ f ∧ f < 64 → (sgnC f = b.toNat ↔ f = q)) (ha61 : a.toNat ≠ 61) (hb61 : b.toNat ≠ 61) : AltIs (some #[a, b]) p q
theorem list_chars {fs : List Int} (h : ∀ f ∈ fs, 0 ≤ f ∧ f < 64) : ∀ c ∈ (listS fs).cps.toList, c < 128 := by
  intro c hc
  simp only [listS, List.mem_map] at hc
  obtain ⟨f, hf, rfl⟩ := hc
  exact (sgn_at (h f hf)).1
theorem fill_cps (fs : List Int) (k : Nat) : (listS fs ++ padS k).cps.toList = fs.map sgnC ++ List.replicate k 61 := by
  rw [Str.cps_append, Array.toList_append]
  simp [listS, padS]
theorem dec_ints {alt : Option (Array UInt8)} {p q : Int} (hA : AltIs alt p q) {fs : List Int} (h : ∀ f ∈ fs, 0 ≤ f ∧ f < 64) (k : Nat) :
    KBw.bInts (decIn alt (asciiOf (listS fs ++ padS k))) = fs.map (dcode p q) ++ List.replicate k 61 := by
  have hc := pad_chars (k := k) (list_chars h)
  cases hA with
  | none =>
    show KBw.bInts (asciiOf _) = _
    rw [bints_ascii hc, fill_cps, List.map_append, List.map_map, List.map_replicate]
    congr 1
    refine List.map_congr_left fun f hf => ?_
    have := h f hf
    show (sgnC f : Int) = dcode 64 64 f
    unfold dcode
    rw [if_neg (by omega), if_neg (by omega)]
  | some a b _ _ ha hb ha61 hb61 =>
    show KBw.bInts (trans (mkTrans #[a, b] #[43, 47]) (asciiOf _)) = _
    rw [bints_trans hc, fill_cps, List.map_append, List.map_map, List.map_replicate]
    congr 1
    · refine List.map_congr_left fun f hf => ?_
      have hr := h f hf
      have hs := sgn_at hr
      show (((mkTrans #[a, b] #[43, 47]).getD (sgnC f) (sgnC f).toUInt8).toNat : Int) = dcode p q f
      rw [tab_at _ _ _ _ (by omega)]
      unfold dcode
      by_cases h1 : f = q
      · rw [if_pos ((hb f hr).mpr h1), if_pos h1]; rfl
      · rw [if_neg fun e => h1 ((hb f hr).mp e), if_neg h1]
        by_cases h2 : f = p
        · rw [if_pos ((ha f hr).mpr h2), if_pos h2]; rfl
        · rw [if_neg fun e => h2 ((ha f hr).mp e), if_neg h2, toU8_nat (by omega)]
    · rw [tab_at _ _ _ _ (by decide), if_neg (Ne.symm hb61), if_neg (Ne.symm ha61)]
      rfl
theorem dec_noeq (p q : Int) {fs : List Int} (h : ∀ f ∈ fs, 0 ≤ f ∧ f < 64) : (61 : Int) ∉ fs.map (dcode p q) := by
  intro hm
  obtain ⟨f, hf, e⟩ := List.mem_map.mp hm
  exact (good_code (p := p) (q := q) (h f hf)).2.2 e
theorem trans_size (T b : Array UInt8) : (trans T b).size = b.size := by unfold trans; exact Array.size_map ..
theorem decIn_size (alt : Option (Array UInt8)) (b : Array UInt8) : (decIn alt b).size = b.size := by
  cases alt with
  | none => rfl
  | some a => exact trans_size _ _
theorem ascii_size (x : Str) : (asciiOf x).size = x.length := by unfold asciiOf; exact Array.size_map ..
theorem fill_len (fs : List Int) (k : Nat) : (listS fs ++ padS k).length = fs.length + k := by
  show (listS fs ++ padS k).cps.size = _
  rw [← Array.length_toList, fill_cps]
  simp
theorem dec_is {alt : Option (Array UInt8)} {p q : Int} (hA : AltIs alt p q) {fs : List Int} (h : ∀ f ∈ fs, 0 ≤ f ∧ f < 64) (hl : fs.length ≤ 60) {k : Nat} (hk : k ≤ 2) (st : Bool)
    (hp : st = true → k = 0 ∨ (2 ≤ (shownM p q fs).length % 4 ∧ (shownM p q fs).length % 4 + k ≤ 4)) : Dec st (decIn alt (asciiOf (listS fs ++ padS k))) (fs.map (dcode p q)) k where
  size := by rw [decIn_size, ascii_size, fill_len]; omega
  hints := dec_ints hA h k
  noeq := dec_noeq p q h
  pad := by rw [vals_code h]; exact hp
theorem padK_le (r : Nat) : padK r ≤ 2 := by unfold padK; (repeat' split) <;> omega
theorem padK_ok (r : Nat) : padK r = 0 ∨ (2 ≤ r ∧ r + padK r ≤ 4) := by unfold padK; (repeat' split) <;> omega
theorem pad_none (x : Str) : x ++ padS 0 = x := by
  apply str_ext
  rw [Str.cps_append, Array.toList_append]
  simp [padS]
theorem out_of {st : Bool} {xs : List Int} {k : Nat} {r : Except Str (Array UInt8)} (e : toB (a2bOut st xs k) = r) : (∀ out, a2bOut st xs k = .ok out → r = .ok (byteArr out)) ∧ (∀ m, a2bOut st xs k = .error m → r = .error m) :=
  ⟨fun out h => by rw [← e, h]; rfl, fun m h => by rw [← e, h]; rfl⟩
theorem reads_deed {w : World} {loose : List Str} {mean : ExcName → Option Value} {mg mb : Str → Option Value} {objs : List (Addr × Obj)} {fa : Addr} {alt : Option (Array UInt8)} {st : Bool} {v : Value} {b : Array UInt8} {xs : List Int} {k : Nat} {r : Except Str (Array UInt8)}
    (R : Reads w loose mean mg mb objs fa alt st) (hv : AsBytes v b) (hb : b.size ≤ 16777216) (hD : Dec st (decIn alt b) xs k) (e : toB (a2bOut st xs k) = r) : Deed w loose mean mg mb objs fa v r where
  fn := R.fn
  go := fun base outer gd s Q E S H hok herr => R.go base outer gd s Q E v b xs k S H hv hb ⟨hD⟩ ⟨fun out ho => hok _ ((out_of e).1 out ho)⟩ ⟨fun m hm => herr _ ((out_of e).2 m hm)⟩
section
variable {w : World} {loose : List Str} {mean : ExcName → Option Value} {mg mb : Str → Option Value} {objs : List (Addr × Obj)} {fa : Addr} {alt : Option (Array UInt8)} {p q : Int} {fs : List Int} {t : Tok}
theorem as_list (h : ∀ f ∈ fs, 0 ≤ f ∧ f < 64) (hl : fs.length ≤ 60) : AsBytes (.str (listS fs) t) (asciiOf (listS fs ++ padS 0)) := by
  rw [pad_none]
  exact .str _ _ (list_chars h) (by have := listS_len fs; show (listS fs).length ≤ _; omega)
theorem fill_size (hl : fs.length ≤ 60) {k : Nat} (hk : k ≤ 2) : (asciiOf (listS fs ++ padS k)).size ≤ 16777216 := by rw [ascii_size, fill_len]; omega
theorem deed_l0 (R : Reads w loose mean mg mb objs fa alt false) (hA : AltIs alt p q) (h : ∀ f ∈ fs, 0 ≤ f ∧ f < 64) (hl : fs.length ≤ 60) : Deed w loose mean mg mb objs fa (.str (listS fs) t) (bareE (shownM p q fs)) :=
  reads_deed R (as_list h hl) (fill_size hl (by decide)) (dec_is hA h hl (by decide) false fun e => by cases e) (out_loose0 h)
theorem deed_lk (R : Reads w loose mean mg mb objs fa alt false) (hA : AltIs alt p q) (h : ∀ f ∈ fs, 0 ≤ f ∧ f < 64) (hl : fs.length ≤ 60) : DeedB w loose mean mg mb objs fa (fillB (listS fs) (shownM p q fs)) (dueE (shownM p q fs)) :=
  ⟨fun _ => reads_deed R (.bytes _ _) (fill_size hl (padK_le _)) (dec_is hA h hl (padK_le _) false fun e => by cases e) (out_loosek h)⟩
theorem deed_s0 (R : Reads w loose mean mg mb objs fa alt true) (hA : AltIs alt p q) (h : ∀ f ∈ fs, 0 ≤ f ∧ f < 64) (hl : fs.length ≤ 60) : Deed w loose mean mg mb objs fa (.str (listS fs) t) (onlyE fs.length (shownM p q fs) (bareE (shownM p q fs))) :=
  reads_deed R (as_list h hl) (fill_size hl (by decide)) (dec_is hA h hl (by decide) true fun _ => .inl rfl) (out_strict0 h)
theorem deed_sk (R : Reads w loose mean mg mb objs fa alt true) (hA : AltIs alt p q) (h : ∀ f ∈ fs, 0 ≤ f ∧ f < 64) (hl : fs.length ≤ 60) : DeedB w loose mean mg mb objs fa (fillB (listS fs) (shownM p q fs)) (onlyE fs.length (shownM p q fs) (dueE (shownM p q fs))) :=
  ⟨fun _ => reads_deed R (.bytes _ _) (fill_size hl (padK_le _)) (dec_is hA h hl (padK_le _) true fun _ => padK_ok _) (out_strictk h)⟩
end
theorem alt_fin1 : ∀ x : Fin 64, (sgnC (x.val : Int) = 45 ↔ x.val = 62) ∧ (sgnC (x.val : Int) = 63 ↔ x.val = 63) ∧ sgnC (x.val : Int) ≠ 95 := by decide +kernel
theorem alt_fin {f : Int} (h : 0 ≤ f ∧ f < 64) : (sgnC f = 45 ↔ f = 62) ∧ (sgnC f = 63 ↔ f = 63) ∧ sgnC f ≠ 95 := by
  have := alt_fin1 ⟨f.toNat, by omega⟩
  have e : ((⟨f.toNat, by omega⟩ : Fin 64).val : Int) = f := by show (f.toNat : Int) = f; omega
  rw [e] at this
  obtain ⟨h1, h2, h3⟩ := this
  refine ⟨h1.trans ?_, h2.trans ?_, h3⟩
  · show f.toNat = 62 ↔ f = 62
    omega
  · show f.toNat = 63 ↔ f = 63
    omega
theorem alt_q : AltIs (some #[45, 63]) 62 63 := .some 45 63 62 63 (fun _ h => (alt_fin h).1) (fun _ h => (alt_fin h).2.1) (by decide) (by decide)
theorem alt_u : AltIs (some #[45, 95]) 62 64 := .some 45 95 62 64 (fun _ h => (alt_fin h).1) (fun f h => ⟨fun e => absurd e (alt_fin h).2.2, fun e => by omega⟩) (by decide) (by decide)
theorem alt_two {p q : Int} (hp : 0 ≤ p ∧ p < 64) (hq : 0 ≤ q ∧ q < 64) : AltIs (some (asciiOf (sgnS p ++ sgnS q))) p q := by
  have e : asciiOf (sgnS p ++ sgnS q) = #[(sgnC p).toUInt8, (sgnC q).toUInt8] := by unfold asciiOf; rw [Str.cps_append]; simp [sgnS]
  have e1 : (sgnC p).toUInt8.toNat = sgnC p := toU8_nat (by have := (sgn_at hp).1; omega)
  have e2 : (sgnC q).toUInt8.toNat = sgnC q := toU8_nat (by have := (sgn_at hq).1; omega)
  rw [e]
  refine .some _ _ p q (fun f h => ?_) (fun f h => ?_) (by rw [e1]; exact (sgn_at hp).2.1) (by rw [e2]; exact (sgn_at hq).2.1)
  · rw [e1]; exact ⟨fun z => sgn_inj h hp z, fun z => by rw [z]⟩
  · rw [e2]; exact ⟨fun z => sgn_inj h hq z, fun z => by rw [z]⟩
end
section
/-! plain: what the writers write -/
theorem efold_oct : ∀ (F acc : List Int), (∀ f ∈ F, 0 ≤ f ∧ f < 64) → F.length % 4 = 0 → (octsM F).foldl estp (0, 0, acc) = (0, 0, acc ++ F)
  | a :: b :: c :: d :: r, acc, h, hl => by
    have ha := h a (by simp); have hb := h b (by simp); have hc := h c (by simp); have hd := h d (by simp)
    have ih := efold_oct r (acc ++ [a] ++ [b] ++ [c, d]) (fun f hf => h f (by simp [hf])) (by simp only [List.length_cons] at hl; omega)
    have e1 : (((a * 64 + b) * 64 + c) * 64 + d) / 65536 = a * 4 + b / 16 := by omega
    have e2 : (((a * 64 + b) * 64 + c) * 64 + d) / 256 % 256 = b % 16 * 16 + c / 4 := by omega
    have e3 : (((a * 64 + b) * 64 + c) * 64 + d) % 256 = c % 4 * 64 + d := by omega
    have f1 : (a * 4 + b / 16) / 4 = a := by omega
    have f2 : (a * 4 + b / 16) % 4 * 16 + (b % 16 * 16 + c / 4) / 16 = b := by omega
    have f3 : (b % 16 * 16 + c / 4) % 16 * 4 + (c % 4 * 64 + d) / 64 = c := by omega
    have f4 : (c % 4 * 64 + d) % 64 = d := by omega
    have e : (octsM (a :: b :: c :: d :: r)).foldl estp (0, 0, acc) = (octsM r).foldl estp (0, 0, acc ++ [a] ++ [b] ++ [c, d]) := by
      simp only [octsM, e1, e2, e3, List.foldl_cons]
      congr 1
      simp [estp, f1, f4]
      constructor <;> omega
    rw [e, ih]
    simp
  | [a, b, c], acc, h, hl => by simp at hl
  | [a, b], acc, h, hl => by simp at hl
  | [a], acc, h, hl => by simp at hl
  | [], acc, h, hl => by simp [octsM]
theorem octs_le : ∀ F : List Int, (octsM F).length ≤ F.length
  | a :: b :: c :: d :: r => by
    have := octs_le r
    simp only [octsM, List.length_cons]
    omega
  | [a, b, c] => by simp [octsM]
  | [a, b] => by simp [octsM]
  | [a] => by simp [octsM]
  | [] => by simp [octsM]
theorem full_mod {fs : List Int} (h : fs.length % 4 = 0 ∨ fs.length % 4 = 2) : (fullF fs).length % 4 = 0 := by
  unfold fullF
  rw [zeros_eq, List.length_append, List.length_replicate, Int.fmod_eq_emod_of_nonneg _ (by decide)]
  omega
theorem octs_ints {F : List Int} (h : ∀ f ∈ F, 0 ≤ f ∧ f < 64) : KBw.bInts (byteArr (octsM F)) = octsM F := KBa.ints_make (octsM_in F h)
theorem whole_octs {F : List Int} (h : ∀ f ∈ F, 0 ≤ f ∧ f < 64) (hl : F.length ≤ 62) (h4 : F.length % 4 = 0) : Whole3 (byteArr (octsM F)) := by
  refine ⟨?_, ?_⟩
  · have := octs_le F
    rw [byteArr_size]; omega
  · rw [octs_ints h]
    unfold efold
    rw [efold_oct F [] h h4]
theorem enc_octs {F : List Int} (h : ∀ f ∈ F, 0 ≤ f ∧ f < 64) (h4 : F.length % 4 = 0) : enc (byteArr (octsM F)) = byteArr (F.map b64c) := by
  unfold enc
  rw [octs_ints h]
  unfold efold
  rw [efold_oct F [] h h4]
  rfl
theorem code_fin : ∀ x : Fin 64, (b64c (x.val : Int)).toNat < 256 ∧
    (if (b64c (x.val : Int)).toNat = (47 : UInt8).toNat then (63 : UInt8) else if (b64c (x.val : Int)).toNat = (43 : UInt8).toNat then 45 else (b64c (x.val : Int)).toNat.toUInt8) = (sgnC (x.val : Int)).toUInt8 ∧
    (if (b64c (x.val : Int)).toNat = (47 : UInt8).toNat then (95 : UInt8) else if (b64c (x.val : Int)).toNat = (43 : UInt8).toNat then 45 else (b64c (x.val : Int)).toNat.toUInt8) = (sub1 63 95 (sgnC (x.val : Int))).toUInt8 ∧
    (b64c (x.val : Int)).toNat.toUInt8 = (sub1 63 47 (sub1 45 43 (sgnC (x.val : Int)))).toUInt8 := by decide +kernel
theorem code_at {f : Int} (h : 0 ≤ f ∧ f < 64) : (b64c f).toNat < 256 ∧
    (if (b64c f).toNat = (47 : UInt8).toNat then (63 : UInt8) else if (b64c f).toNat = (43 : UInt8).toNat then 45 else (b64c f).toNat.toUInt8) = (sgnC f).toUInt8 ∧
    (if (b64c f).toNat = (47 : UInt8).toNat then (95 : UInt8) else if (b64c f).toNat = (43 : UInt8).toNat then 45 else (b64c f).toNat.toUInt8) = (sub1 63 95 (sgnC f)).toUInt8 ∧
    (b64c f).toNat.toUInt8 = (sub1 63 47 (sub1 45 43 (sgnC f))).toUInt8 := by
  have := code_fin ⟨f.toNat, by omega⟩
  have e : ((⟨f.toNat, by omega⟩ : Fin 64).val : Int) = f := by show (f.toNat : Int) = f; omega
  rwa [e] at this
theorem arr_ext {a b : Array UInt8} (h : a.toList = b.toList) : a = b := Array.toList_inj.mp h
theorem ascii_map (g : Nat → Nat) (F : List Int) : (asciiOf (mapS g (listS F))).toList = F.map fun f => (g (sgnC f)).toUInt8 := by
  unfold asciiOf mapS listS
  simp
theorem ascii_list (F : List Int) : (asciiOf (listS F)).toList = F.map fun f => (sgnC f).toUInt8 := by
  unfold asciiOf listS
  simp
theorem ascii_map2 (g g' : Nat → Nat) (F : List Int) : (asciiOf (mapS g (mapS g' (listS F)))).toList = F.map fun f => (g (g' (sgnC f))).toUInt8 := by
  unfold asciiOf mapS listS
  simp
theorem trans_arr {c d : UInt8} {F : List Int} {u : Int → UInt8} (h : ∀ f ∈ F, (b64c f).toNat < 256 ∧ (if (b64c f).toNat = (47 : UInt8).toNat then d else if (b64c f).toNat = (43 : UInt8).toNat then c else (b64c f).toNat.toUInt8) = u f) :
    (trans (mkTrans #[43, 47] #[c, d]) (byteArr (F.map b64c))).toList = F.map u := by
  unfold trans byteArr
  rw [Array.toList_map, List.toList_toArray, List.map_map, List.map_map]
  refine List.map_congr_left fun f hf => ?_
  obtain ⟨h1, h2⟩ := h f hf
  show (mkTrans #[43, 47] #[c, d]).getD ((b64c f).toNat.toUInt8).toNat ((b64c f).toNat.toUInt8) = u f
  rw [toU8_nat h1, tab_at _ _ _ _ h1, h2]
theorem page_q {F : List Int} (h : ∀ f ∈ F, 0 ≤ f ∧ f < 64) (h4 : F.length % 4 = 0) : trans (mkTrans #[43, 47] #[45, 63]) (enc (byteArr (octsM F))) = asciiOf (listS F) := by
  apply arr_ext
  rw [enc_octs h h4, ascii_list]
  exact trans_arr fun f hf => ⟨(code_at (h f hf)).1, (code_at (h f hf)).2.1⟩
theorem page_u {F : List Int} (h : ∀ f ∈ F, 0 ≤ f ∧ f < 64) (h4 : F.length % 4 = 0) : trans (mkTrans #[43, 47] #[45, 95]) (enc (byteArr (octsM F))) = asciiOf (mapS (sub1 63 95) (listS F)) := by
  apply arr_ext
  rw [enc_octs h h4, ascii_map]
  exact trans_arr fun f hf => ⟨(code_at (h f hf)).1, (code_at (h f hf)).2.2.1⟩
theorem page_s {F : List Int} (h : ∀ f ∈ F, 0 ≤ f ∧ f < 64) (h4 : F.length % 4 = 0) : enc (byteArr (octsM F)) = asciiOf (mapS (sub1 63 47) (mapS (sub1 45 43) (listS F))) := by
  apply arr_ext
  rw [enc_octs h h4, ascii_map2]
  unfold byteArr
  rw [List.toList_toArray, List.map_map]
  exact List.map_congr_left fun f hf => (code_at (h f hf)).2.2.2
theorem mapS_chars {g : Nat → Nat} {x : Str} (hg : ∀ c, c < 128 → g c < 128) (h : ∀ c ∈ x.cps.toList, c < 128) : ∀ c ∈ (mapS g x).cps.toList, c < 128 := by
  intro c hc
  simp only [mapS, List.mem_map] at hc
  obtain ⟨d, hd, rfl⟩ := hc
  exact hg d (h d hd)
theorem sub1_lt {c d : Nat} (hd : d < 128) : ∀ a, a < 128 → sub1 c d a < 128 := by
  intro a ha
  unfold sub1
  split <;> assumption
end
section
/-! the defs of the text as readers and writers -/
section
variable {w : World} {loose : List Str} {mean : ExcName → Option Value} {mg mb : Str → Option Value} {objs : List (Addr × Obj)}
theorem fn_163 {h : Heap} (X : (hd.heap_1 w.params).In h) : ∃ o fd, h.get? 163 = some o ∧ o.data = Data.func fd := by
  have q : Challenge.rw_qh0096_01.row.prog = Challenge.rw_qh0096_01.row.prog := rfl
  revert q X; k_fill; intro X q
  exact ⟨_, _, X _ _ (show _ = some _ by k_is), rfl⟩
theorem fn_177 {h : Heap} (X : (hd.heap_1 w.params).In h) : ∃ o fd, h.get? 177 = some o ∧ o.data = Data.func fd := by
  have q : Challenge.rw_qh0096_01.row.prog = Challenge.rw_qh0096_01.row.prog := rfl
  revert q X; k_fill; intro X q
  exact ⟨_, _, X _ _ (show _ = some _ by k_is), rfl⟩
theorem fn_156 {h : Heap} (X : (hd.heap_1 w.params).In h) : ∃ o fd, h.get? 156 = some o ∧ o.data = Data.func fd := by
  have q : Challenge.rw_qh0096_01.row.prog = Challenge.rw_qh0096_01.row.prog := rfl
  revert q X; k_fill; intro X q
  exact ⟨_, _, X _ _ (show _ = some _ by k_is), rfl⟩
theorem fn_170 {h : Heap} (X : (hd.heap_1 w.params).In h) : ∃ o fd, h.get? 170 = some o ∧ o.data = Data.func fd := by
  have q : Challenge.rw_qh0096_01.row.prog = Challenge.rw_qh0096_01.row.prog := rfl
  revert q X; k_fill; intro X q
  exact ⟨_, _, X _ _ (show _ = some _ by k_is), rfl⟩
theorem reads_std : Reads w loose mean mg mb objs 163 none false :=
  ⟨fun _ _ X => fn_163 X, fun _ _ _ _ _ _ _ _ _ _ _ H hv hb hD hok he => standard_decode H hv hb hD hok he⟩
theorem reads_url : Reads w loose mean mg mb objs 177 (some #[45, 95]) false :=
  ⟨fun _ _ X => fn_177 X, fun _ _ _ _ _ _ _ _ _ _ _ H hv hb hD hok he => urlsafe_decode H hv hb hD hok he⟩
theorem enc_std {bs : Array UInt8} {t : Tok} (hb : Whole3 bs) : Deed w loose mean mg mb objs 156 (.bytes bs t) (.ok (enc bs)) :=
  ⟨fun _ _ X => fn_156 X, fun _ _ _ _ _ _ _ H hok _ => standard_encode H ⟨hb⟩ ⟨hok _ rfl⟩⟩
theorem enc_url {bs : Array UInt8} {t : Tok} (hb : Whole3 bs) : Deed w loose mean mg mb objs 170 (.bytes bs t) (.ok (trans (mkTrans #[43, 47] #[45, 95]) (enc bs))) :=
  ⟨fun _ _ X => fn_170 X, fun _ _ _ _ _ _ _ H hok _ => urlsafe_encode H ⟨hb⟩ ⟨hok _ rfl⟩⟩
end
end
section
/-! plain: signs of a listing -/
theorem item_sgn {fs : List Int} {i : Int} (h0 : 0 ≤ i) (h1 : i < (fs.length : Int)) : Txt.item (listS fs) i = sgnS (fs.getD i.toNat 0) := by
  have hl := listS_len fs
  have e : seqIndex? i (listS fs).length = some i.toNat := by
    unfold seqIndex?
    rw [hl]
    simp
    omega
  unfold Txt.item Txt.charAt
  rw [e]
  have hi : i.toNat < fs.length := by omega
  simp [listS, sgnS, hi]
theorem list_take (fs : List Int) (k : Nat) : (listS (fs.take k)).cps.toList = (listS fs).cps.toList.take k := by
  simp [listS, List.map_take]
end
section
theorem paired3 {R : Value → Value → Prop} {a b c : Value} {ys : List Value} (h : Paired R [a, b, c] ys) : ∃ x y z, ys = [x, y, z] ∧ R a x ∧ R b y ∧ R c z := by
  cases h with
  | cons h1 h =>
    cases h with
    | cons h2 h =>
      cases h with
      | cons h3 h => cases h; exact ⟨_, _, _, rfl, h1, h2, h3⟩
theorem law_b {w : World} {loose : List Str} {mean : ExcName → Option Value} {mg mb : Str → Option Value} {h₀ : Heap} {s : Shared} {Q : Flow → Shared → Prop} {E : Value → Shared → Prop} {L f lw lp f' c' : Addr} {fs : List Int} {m : Str → Option Value} {oO oF oC : Obj} {n1 n2 : Nat} {bs : Array UInt8} {t0 t1 t2 t3 : Tok} {news : List (Addr × Obj)}
    {name qual : Str} {params : Arguments} {body : List Stmt} {scope : Scope} {dV kV doc pm cdv ct oc : Value} {an od : Option Addr} {osl : Array (Option Value)}
    (ho : (hd.heap_1 w.params).lookup 208 = some ⟨oc, od, .func (fnOf name qual params body scope dV kV doc pm an cdv ct), osl⟩)
    (B : Below callerA h₀ [] h₀) (X : (hd.heap_1 w.params).In h₀) (T : Top topProg loose mean mg mb h₀) (C : CodeHd h₀ 207 205)
    (hb : Binds m [(Str.ofString "writers", .ref lw), (Str.ofString "pages", .ref lp)])
    (F : Fr h₀ L s.heap m)
    (N : News h₀ L s.heap ((lw, W.listOf #[.ref f', .ref 170, .ref 156] n1) :: (lp, W.listOf #[.str (listS (fullF fs)) t1, .str (mapS (sub1 63 95) (listS (fullF fs))) t2, .str (mapS (sub1 63 47) (mapS (sub1 45 43) (listS (fullF fs)))) t3] n2) :: (L + 1, oO) :: (f', oF) :: (c', oC) :: news))
    (hoO : oO.data = .cell (some (.bytes (byteArr (octsM (fullF fs))) t0))) (hf' : @LT.lt Nat instLTNat 205 f')
    (hfin : Hid (∀ f ∈ fullF fs, 0 ≤ f ∧ f < 64)) (hfl2 : (listS (fullF fs)).length ≤ 62) (hW4 : (fullF fs).length % 4 = 0) (hW : Hid (Whole3 (byteArr (octsM (fullF fs)))))
    (dW : ∀ t, Deed w loose mean mg mb [(f', oF), (c', oC)] f' (.bytes (byteArr (octsM (fullF fs))) t) (.ok (trans (mkTrans #[43, 47] #[45, 63]) (enc (byteArr (octsM (fullF fs)))))))
    (next : Hid (∀ h' tk', Fr h₀ L h' m → News h₀ L h' ((lw, W.listOf #[.ref f', .ref 170, .ref 156] n1) :: (lp, W.listOf #[.str (listS (fullF fs)) t1, .str (mapS (sub1 63 95) (listS (fullF fs))) t2, .str (mapS (sub1 63 47) (mapS (sub1 45 43) (listS (fullF fs)))) t3] n2) :: (L + 1, oO) :: (f', oF) :: (c', oC) :: news) → wpAny (model Challenge.rw_qh0096_01.row.prog w) (callerA.deeper (envOfC qual scope L f cdv)) (execs (body.drop 10) (envOfC qual scope L f cdv)) Q E { s with heap := h', toks := tk' })) :
    wpAny (model Challenge.rw_qh0096_01.row.prog w) (callerA.deeper (envOfC qual scope L f cdv)) (execs (body.drop 9) (envOfC qual scope L f cdv)) Q E s := by
  revert X; k_fill; intro X
  have hc := Option.some.inj (ho.symm.trans (show _ = some _ from by k_is))
  dsimp only [fnOf] at hc
  cases hc
  clear ho
  dsimp only [List.drop]
  try k_fold
  rw [← kstB_self hb.all] at F
  dsimp only [kstB] at F
  generalize hF : fullF fs = fF at *
  clear hF
  (repeat' (first | (k_unfold; (try dsimp only)) | (first | with_reducible ((with_reducible show wpAny _ _ (execs (Stmt.Assign [Expr.Tuple _ _ _] _ _ :: _) _) _ _ _); refine stop_here ?_) | with_reducible ((with_reducible show wpAny _ _ (compareOp CmpOp.NotEq (Value.ref _) (Value.ref _)) _ _ _); refine stop_here ?_) | with_reducible ((with_reducible show wpAny _ _ (call (Value.builtin "str.encode") _ _) _ _ _); (refine encode_call (by first | exact list_chars (Hid.out (by assumption)) | exact mapS_chars (sub1_lt (by decide)) (list_chars (Hid.out (by assumption))) | exact mapS_chars (sub1_lt (by decide)) (mapS_chars (sub1_lt (by decide)) (list_chars (Hid.out (by assumption))))) (by first | exact Nat.le_trans (by assumption) (by decide) | (refine Nat.le_trans (Nat.le_of_eq (mapS_len _ _)) ?_; first | exact Nat.le_trans (by assumption) (by decide) | (refine Nat.le_trans (Nat.le_of_eq (mapS_len _ _)) ?_; exact Nat.le_trans (by assumption) (by decide)))) ?_; intro t9 k9; (try dsimp only))) | ((with_reducible show wpAny _ _ (call (Value.builtin "str.encode") _ _) _ _ _); (refine encode_call (by first | exact list_chars (Hid.out (by assumption)) | exact mapS_chars (sub1_lt (by decide)) (list_chars (Hid.out (by assumption))) | exact mapS_chars (sub1_lt (by decide)) (mapS_chars (sub1_lt (by decide)) (list_chars (Hid.out (by assumption))))) (by first | exact Nat.le_trans (by assumption) (by decide) | (refine Nat.le_trans (Nat.le_of_eq (mapS_len _ _)) ?_; first | exact Nat.le_trans (by assumption) (by decide) | (refine Nat.le_trans (Nat.le_of_eq (mapS_len _ _)) ?_; exact Nat.le_trans (by assumption) (by decide)))) ?_; intro t9 k9; (try dsimp only))) | with_reducible ((with_reducible show wpAny _ _ (getMethod (Value.str _ _) _ _) _ _ _); (k_here; with_reducible refine getm_encode ?_)) | with_reducible ((with_reducible show wpAny _ _ (call (Value.ref _) _ _) _ _ _); first | ((with_reducible show wpAny _ _ (call (Value.ref 198) _ _) _ _ _); refine stop_here ?_) | ((with_reducible show wpAny _ _ (call (Value.ref 184) _ _) _ _ _); refine stop_here ?_) | ((with_reducible show wpAny _ _ (call (Value.ref 68) _ _) _ _ _); refine stop_here ?_)) | with_reducible ((with_reducible show CompPack _); refine stop_here ?_) | with_reducible ((with_reducible show wpAny _ _ (eval (Expr.ListComp _ _ _ _) _) _ _ _); refine stop_here ?_) | with_reducible ((with_reducible show ite _ _ _); first | (refine ite_pos (by ((try simp only [decide_eq_true_eq, beq_iff_eq, bne_iff_ne, ne_eq, Bool.not_eq_true']); omega)) ?_; walk_say "m ite +") | (refine ite_neg (by ((try simp only [decide_eq_true_eq, beq_iff_eq, bne_iff_ne, ne_eq, Bool.not_eq_true']); omega)) ?_; walk_say "m ite -")) | with_reducible ((with_reducible show InvEndN _ _ _ _ _ _ _); refine stop_here ?_)) | walk1 | (dsimp only; walk1) | (leave1; walk_say "STEP leave1"; try dsimp only) | fail "no step"))
  refine Stop.of ?_
  rename News _ _ _ _ => nN
  rename Fr _ _ _ _ => nF
  refine' comp_eval (h₀ := h₀) (L := L) (m := frMap nF) (fun v y => ∃ t, y = .bytes (if v = .ref 170 then asciiOf (mapS (sub1 63 95) (listS fF)) else if v = .ref 156 then asciiOf (mapS (sub1 63 47) (mapS (sub1 45 43) (listS fF))) else asciiOf (listS fF)) t) (by with_unfolding_all rfl) (by with_unfolding_all rfl) (by decide) (by with_unfolding_all rfl) (by decide) (by with_unfolding_all rfl) ?_ (by intro _; with_unfolding_all rfl)
  try dsimp only [frMap]
  refine wpAny_compPack ?_
  (repeat' (first | (k_unfold; (try dsimp only)) | (first | with_reducible ((with_reducible show wpAny _ _ (execs (Stmt.Assign [Expr.Tuple _ _ _] _ _ :: _) _) _ _ _); refine stop_here ?_) | with_reducible ((with_reducible show wpAny _ _ (compareOp CmpOp.NotEq (Value.ref _) (Value.ref _)) _ _ _); refine stop_here ?_) | with_reducible ((with_reducible show wpAny _ _ (call (Value.builtin "str.encode") _ _) _ _ _); (refine encode_call (by first | exact list_chars (Hid.out (by assumption)) | exact mapS_chars (sub1_lt (by decide)) (list_chars (Hid.out (by assumption))) | exact mapS_chars (sub1_lt (by decide)) (mapS_chars (sub1_lt (by decide)) (list_chars (Hid.out (by assumption))))) (by first | exact Nat.le_trans (by assumption) (by decide) | (refine Nat.le_trans (Nat.le_of_eq (mapS_len _ _)) ?_; first | exact Nat.le_trans (by assumption) (by decide) | (refine Nat.le_trans (Nat.le_of_eq (mapS_len _ _)) ?_; exact Nat.le_trans (by assumption) (by decide)))) ?_; intro t9 k9; (try dsimp only))) | ((with_reducible show wpAny _ _ (call (Value.builtin "str.encode") _ _) _ _ _); (refine encode_call (by first | exact list_chars (Hid.out (by assumption)) | exact mapS_chars (sub1_lt (by decide)) (list_chars (Hid.out (by assumption))) | exact mapS_chars (sub1_lt (by decide)) (mapS_chars (sub1_lt (by decide)) (list_chars (Hid.out (by assumption))))) (by first | exact Nat.le_trans (by assumption) (by decide) | (refine Nat.le_trans (Nat.le_of_eq (mapS_len _ _)) ?_; first | exact Nat.le_trans (by assumption) (by decide) | (refine Nat.le_trans (Nat.le_of_eq (mapS_len _ _)) ?_; exact Nat.le_trans (by assumption) (by decide)))) ?_; intro t9 k9; (try dsimp only))) | with_reducible ((with_reducible show wpAny _ _ (getMethod (Value.str _ _) _ _) _ _ _); (k_here; with_reducible refine getm_encode ?_)) | with_reducible ((with_reducible show wpAny _ _ (call (Value.ref _) _ _) _ _ _); first | ((with_reducible show wpAny _ _ (call (Value.ref 198) _ _) _ _ _); refine stop_here ?_) | ((with_reducible show wpAny _ _ (call (Value.ref 184) _ _) _ _ _); refine stop_here ?_) | ((with_reducible show wpAny _ _ (call (Value.ref 68) _ _) _ _ _); refine stop_here ?_)) | with_reducible ((with_reducible show CompPack _); refine stop_here ?_) | with_reducible ((with_reducible show wpAny _ _ (eval (Expr.ListComp _ _ _ _) _) _ _ _); refine stop_here ?_) | with_reducible ((with_reducible show ite _ _ _); first | (refine ite_pos (by ((try simp only [decide_eq_true_eq, beq_iff_eq, bne_iff_ne, ne_eq, Bool.not_eq_true']); omega)) ?_; walk_say "m ite +") | (refine ite_neg (by ((try simp only [decide_eq_true_eq, beq_iff_eq, bne_iff_ne, ne_eq, Bool.not_eq_true']); omega)) ?_; walk_say "m ite -")) | with_reducible ((with_reducible show InvEndN _ _ _ _ _ _ _); refine stop_here ?_)) | walk1 | (dsimp only; walk1) | (leave1; walk_say "STEP leave1"; try dsimp only) | fail "no step"))
  refine Stop.of (CompPack.intro ?_)
  refine' ⟨_, _, _, rfl, News.isList (by k_asm) (by k_mem), ?_, nF, nN, ?_, ?_⟩
  · rw [sizeLine_eq]; exact Nat.le_of_ble_eq_true rfl
  · intro C' v s₂ m₂ E' hmem hn hm cF' cN'
    have cE' := InElt.start s₂.heap
    simp only [List.mem_cons, List.not_mem_nil, or_false] at hmem
    rcases hmem with rfl | rfl | rfl
    · (repeat' (first | (k_unfold; (try dsimp only)) | (first | with_reducible ((with_reducible show wpAny _ _ (execs (Stmt.Assign [Expr.Tuple _ _ _] _ _ :: _) _) _ _ _); refine stop_here ?_) | with_reducible ((with_reducible show wpAny _ _ (compareOp CmpOp.NotEq (Value.ref _) (Value.ref _)) _ _ _); refine stop_here ?_) | with_reducible ((with_reducible show wpAny _ _ (call (Value.builtin "str.encode") _ _) _ _ _); (refine encode_call (by first | exact list_chars (Hid.out (by assumption)) | exact mapS_chars (sub1_lt (by decide)) (list_chars (Hid.out (by assumption))) | exact mapS_chars (sub1_lt (by decide)) (mapS_chars (sub1_lt (by decide)) (list_chars (Hid.out (by assumption))))) (by first | exact Nat.le_trans (by assumption) (by decide) | (refine Nat.le_trans (Nat.le_of_eq (mapS_len _ _)) ?_; first | exact Nat.le_trans (by assumption) (by decide) | (refine Nat.le_trans (Nat.le_of_eq (mapS_len _ _)) ?_; exact Nat.le_trans (by assumption) (by decide)))) ?_; intro t9 k9; (try dsimp only))) | ((with_reducible show wpAny _ _ (call (Value.builtin "str.encode") _ _) _ _ _); (refine encode_call (by first | exact list_chars (Hid.out (by assumption)) | exact mapS_chars (sub1_lt (by decide)) (list_chars (Hid.out (by assumption))) | exact mapS_chars (sub1_lt (by decide)) (mapS_chars (sub1_lt (by decide)) (list_chars (Hid.out (by assumption))))) (by first | exact Nat.le_trans (by assumption) (by decide) | (refine Nat.le_trans (Nat.le_of_eq (mapS_len _ _)) ?_; first | exact Nat.le_trans (by assumption) (by decide) | (refine Nat.le_trans (Nat.le_of_eq (mapS_len _ _)) ?_; exact Nat.le_trans (by assumption) (by decide)))) ?_; intro t9 k9; (try dsimp only))) | with_reducible ((with_reducible show wpAny _ _ (getMethod (Value.str _ _) _ _) _ _ _); (k_here; with_reducible refine getm_encode ?_)) | with_reducible ((with_reducible show wpAny _ _ (call (Value.ref _) _ _) _ _ _); first | ((with_reducible show wpAny _ _ (call (Value.ref 198) _ _) _ _ _); refine stop_here ?_) | ((with_reducible show wpAny _ _ (call (Value.ref 184) _ _) _ _ _); refine stop_here ?_) | ((with_reducible show wpAny _ _ (call (Value.ref 68) _ _) _ _ _); refine stop_here ?_)) | with_reducible ((with_reducible show CompPack _); refine stop_here ?_) | with_reducible ((with_reducible show wpAny _ _ (eval (Expr.ListComp _ _ _ _) _) _ _ _); refine stop_here ?_) | with_reducible ((with_reducible show ite _ _ _); first | (refine ite_pos (by ((try simp only [decide_eq_true_eq, beq_iff_eq, bne_iff_ne, ne_eq, Bool.not_eq_true']); omega)) ?_; walk_say "m ite +") | (refine ite_neg (by ((try simp only [decide_eq_true_eq, beq_iff_eq, bne_iff_ne, ne_eq, Bool.not_eq_true']); omega)) ?_; walk_say "m ite -")) | with_reducible ((with_reducible show InvEndN _ _ _ _ _ _ _); refine stop_here ?_)) | walk1 | (dsimp only; walk1) | (leave1; walk_say "STEP leave1"; try dsimp only) | fail "no step"))
      refine Stop.of ?_
      refine wpAny_lower (told_b (Here.down B cF' X T rfl rfl rfl) (fun p hp => (cN' p (by simp only [List.mem_cons, List.not_mem_nil, or_false] at hp; rcases hp with rfl | rfl <;> k_mem)).1) (dW _) ⟨fun h' tk' t' k => ⟨⟨t', by rw [if_neg (fun e => absurd (Value.ref.inj e) (by k_ne)), if_neg (fun e => absurd (Value.ref.inj e) (by k_ne)), page_q hfin.out hW4]⟩, h', tk', rfl, k⟩⟩) rfl rfl (Nat.le_of_ble_eq_true rfl) (Nat.le_of_ble_eq_true rfl)
    · (repeat' (first | (k_unfold; (try dsimp only)) | (first | with_reducible ((with_reducible show wpAny _ _ (execs (Stmt.Assign [Expr.Tuple _ _ _] _ _ :: _) _) _ _ _); refine stop_here ?_) | with_reducible ((with_reducible show wpAny _ _ (compareOp CmpOp.NotEq (Value.ref _) (Value.ref _)) _ _ _); refine stop_here ?_) | with_reducible ((with_reducible show wpAny _ _ (call (Value.builtin "str.encode") _ _) _ _ _); (refine encode_call (by first | exact list_chars (Hid.out (by assumption)) | exact mapS_chars (sub1_lt (by decide)) (list_chars (Hid.out (by assumption))) | exact mapS_chars (sub1_lt (by decide)) (mapS_chars (sub1_lt (by decide)) (list_chars (Hid.out (by assumption))))) (by first | exact Nat.le_trans (by assumption) (by decide) | (refine Nat.le_trans (Nat.le_of_eq (mapS_len _ _)) ?_; first | exact Nat.le_trans (by assumption) (by decide) | (refine Nat.le_trans (Nat.le_of_eq (mapS_len _ _)) ?_; exact Nat.le_trans (by assumption) (by decide)))) ?_; intro t9 k9; (try dsimp only))) | ((with_reducible show wpAny _ _ (call (Value.builtin "str.encode") _ _) _ _ _); (refine encode_call (by first | exact list_chars (Hid.out (by assumption)) | exact mapS_chars (sub1_lt (by decide)) (list_chars (Hid.out (by assumption))) | exact mapS_chars (sub1_lt (by decide)) (mapS_chars (sub1_lt (by decide)) (list_chars (Hid.out (by assumption))))) (by first | exact Nat.le_trans (by assumption) (by decide) | (refine Nat.le_trans (Nat.le_of_eq (mapS_len _ _)) ?_; first | exact Nat.le_trans (by assumption) (by decide) | (refine Nat.le_trans (Nat.le_of_eq (mapS_len _ _)) ?_; exact Nat.le_trans (by assumption) (by decide)))) ?_; intro t9 k9; (try dsimp only))) | with_reducible ((with_reducible show wpAny _ _ (getMethod (Value.str _ _) _ _) _ _ _); (k_here; with_reducible refine getm_encode ?_)) | with_reducible ((with_reducible show wpAny _ _ (call (Value.ref _) _ _) _ _ _); first | ((with_reducible show wpAny _ _ (call (Value.ref 198) _ _) _ _ _); refine stop_here ?_) | ((with_reducible show wpAny _ _ (call (Value.ref 184) _ _) _ _ _); refine stop_here ?_) | ((with_reducible show wpAny _ _ (call (Value.ref 68) _ _) _ _ _); refine stop_here ?_)) | with_reducible ((with_reducible show CompPack _); refine stop_here ?_) | with_reducible ((with_reducible show wpAny _ _ (eval (Expr.ListComp _ _ _ _) _) _ _ _); refine stop_here ?_) | with_reducible ((with_reducible show ite _ _ _); first | (refine ite_pos (by ((try simp only [decide_eq_true_eq, beq_iff_eq, bne_iff_ne, ne_eq, Bool.not_eq_true']); omega)) ?_; walk_say "m ite +") | (refine ite_neg (by ((try simp only [decide_eq_true_eq, beq_iff_eq, bne_iff_ne, ne_eq, Bool.not_eq_true']); omega)) ?_; walk_say "m ite -")) | with_reducible ((with_reducible show InvEndN _ _ _ _ _ _ _); refine stop_here ?_)) | walk1 | (dsimp only; walk1) | (leave1; walk_say "STEP leave1"; try dsimp only) | fail "no step"))
      refine Stop.of ?_
      refine wpAny_lower (told_b (Here.down B cF' X T rfl rfl rfl) (fun p hp => (cN' p hp).1) (enc_url hW.out) ⟨fun h' tk' t' k => ⟨⟨t', by rw [if_pos (by first | exact trivial | rfl), page_u hfin.out hW4]⟩, h', tk', rfl, k⟩⟩) rfl rfl (Nat.le_of_ble_eq_true rfl) (Nat.le_of_ble_eq_true rfl)
    · (repeat' (first | (k_unfold; (try dsimp only)) | (first | with_reducible ((with_reducible show wpAny _ _ (execs (Stmt.Assign [Expr.Tuple _ _ _] _ _ :: _) _) _ _ _); refine stop_here ?_) | with_reducible ((with_reducible show wpAny _ _ (compareOp CmpOp.NotEq (Value.ref _) (Value.ref _)) _ _ _); refine stop_here ?_) | with_reducible ((with_reducible show wpAny _ _ (call (Value.builtin "str.encode") _ _) _ _ _); (refine encode_call (by first | exact list_chars (Hid.out (by assumption)) | exact mapS_chars (sub1_lt (by decide)) (list_chars (Hid.out (by assumption))) | exact mapS_chars (sub1_lt (by decide)) (mapS_chars (sub1_lt (by decide)) (list_chars (Hid.out (by assumption))))) (by first | exact Nat.le_trans (by assumption) (by decide) | (refine Nat.le_trans (Nat.le_of_eq (mapS_len _ _)) ?_; first | exact Nat.le_trans (by assumption) (by decide) | (refine Nat.le_trans (Nat.le_of_eq (mapS_len _ _)) ?_; exact Nat.le_trans (by assumption) (by decide)))) ?_; intro t9 k9; (try dsimp only))) | ((with_reducible show wpAny _ _ (call (Value.builtin "str.encode") _ _) _ _ _); (refine encode_call (by first | exact list_chars (Hid.out (by assumption)) | exact mapS_chars (sub1_lt (by decide)) (list_chars (Hid.out (by assumption))) | exact mapS_chars (sub1_lt (by decide)) (mapS_chars (sub1_lt (by decide)) (list_chars (Hid.out (by assumption))))) (by first | exact Nat.le_trans (by assumption) (by decide) | (refine Nat.le_trans (Nat.le_of_eq (mapS_len _ _)) ?_; first | exact Nat.le_trans (by assumption) (by decide) | (refine Nat.le_trans (Nat.le_of_eq (mapS_len _ _)) ?_; exact Nat.le_trans (by assumption) (by decide)))) ?_; intro t9 k9; (try dsimp only))) | with_reducible ((with_reducible show wpAny _ _ (getMethod (Value.str _ _) _ _) _ _ _); (k_here; with_reducible refine getm_encode ?_)) | with_reducible ((with_reducible show wpAny _ _ (call (Value.ref _) _ _) _ _ _); first | ((with_reducible show wpAny _ _ (call (Value.ref 198) _ _) _ _ _); refine stop_here ?_) | ((with_reducible show wpAny _ _ (call (Value.ref 184) _ _) _ _ _); refine stop_here ?_) | ((with_reducible show wpAny _ _ (call (Value.ref 68) _ _) _ _ _); refine stop_here ?_)) | with_reducible ((with_reducible show CompPack _); refine stop_here ?_) | with_reducible ((with_reducible show wpAny _ _ (eval (Expr.ListComp _ _ _ _) _) _ _ _); refine stop_here ?_) | with_reducible ((with_reducible show ite _ _ _); first | (refine ite_pos (by ((try simp only [decide_eq_true_eq, beq_iff_eq, bne_iff_ne, ne_eq, Bool.not_eq_true']); omega)) ?_; walk_say "m ite +") | (refine ite_neg (by ((try simp only [decide_eq_true_eq, beq_iff_eq, bne_iff_ne, ne_eq, Bool.not_eq_true']); omega)) ?_; walk_say "m ite -")) | with_reducible ((with_reducible show InvEndN _ _ _ _ _ _ _); refine stop_here ?_)) | walk1 | (dsimp only; walk1) | (leave1; walk_say "STEP leave1"; try dsimp only) | fail "no step"))
      refine Stop.of ?_
      refine wpAny_lower (told_b (Here.down B cF' X T rfl rfl rfl) (fun p hp => (cN' p hp).1) (enc_std hW.out) ⟨fun h' tk' t' k => ⟨⟨t', by rw [if_neg (by decide), if_pos (by first | exact trivial | rfl), page_s hfin.out hW4]⟩, h', tk', rfl, k⟩⟩) rfl rfl (Nat.le_of_ble_eq_true rfl) (Nat.le_of_ble_eq_true rfl)
  · intro D3 ys3 n3 h3 tk3 F3 N3 hne3 hp3
    clear nF nN
    obtain ⟨b1, b2, b3, rfl, ⟨u1, rfl⟩, ⟨u2, rfl⟩, ⟨u3, rfl⟩⟩ := paired3 hp3
    have q1 : (.ref f' : Value) ≠ .ref 170 := fun e => absurd (Value.ref.inj e) (by k_ne)
    have q2 : (.ref f' : Value) ≠ .ref 156 := fun e => absurd (Value.ref.inj e) (by k_ne)
    have q3 : (.ref 156 : Value) ≠ .ref 170 := by decide
    simp only [if_neg q1, if_neg q2, if_neg q3, if_true] at N3
    clear hp3 hne3 q1 q2 q3
    (repeat' (first | (k_unfold; (try dsimp only)) | (first | with_reducible ((with_reducible show wpAny _ _ (execs (Stmt.Assign [Expr.Tuple _ _ _] _ _ :: _) _) _ _ _); refine stop_here ?_) | with_reducible ((with_reducible show wpAny _ _ (compareOp CmpOp.NotEq (Value.ref _) (Value.ref _)) _ _ _); refine stop_here ?_) | with_reducible ((with_reducible show wpAny _ _ (call (Value.builtin "str.encode") _ _) _ _ _); (refine encode_call (by first | exact list_chars (Hid.out (by assumption)) | exact mapS_chars (sub1_lt (by decide)) (list_chars (Hid.out (by assumption))) | exact mapS_chars (sub1_lt (by decide)) (mapS_chars (sub1_lt (by decide)) (list_chars (Hid.out (by assumption))))) (by first | exact Nat.le_trans (by assumption) (by decide) | (refine Nat.le_trans (Nat.le_of_eq (mapS_len _ _)) ?_; first | exact Nat.le_trans (by assumption) (by decide) | (refine Nat.le_trans (Nat.le_of_eq (mapS_len _ _)) ?_; exact Nat.le_trans (by assumption) (by decide)))) ?_; intro t9 k9; (try dsimp only))) | ((with_reducible show wpAny _ _ (call (Value.builtin "str.encode") _ _) _ _ _); (refine encode_call (by first | exact list_chars (Hid.out (by assumption)) | exact mapS_chars (sub1_lt (by decide)) (list_chars (Hid.out (by assumption))) | exact mapS_chars (sub1_lt (by decide)) (mapS_chars (sub1_lt (by decide)) (list_chars (Hid.out (by assumption))))) (by first | exact Nat.le_trans (by assumption) (by decide) | (refine Nat.le_trans (Nat.le_of_eq (mapS_len _ _)) ?_; first | exact Nat.le_trans (by assumption) (by decide) | (refine Nat.le_trans (Nat.le_of_eq (mapS_len _ _)) ?_; exact Nat.le_trans (by assumption) (by decide)))) ?_; intro t9 k9; (try dsimp only))) | with_reducible ((with_reducible show wpAny _ _ (getMethod (Value.str _ _) _ _) _ _ _); (k_here; with_reducible refine getm_encode ?_)) | with_reducible ((with_reducible show wpAny _ _ (call (Value.ref _) _ _) _ _ _); first | ((with_reducible show wpAny _ _ (call (Value.ref 198) _ _) _ _ _); refine stop_here ?_) | ((with_reducible show wpAny _ _ (call (Value.ref 184) _ _) _ _ _); refine stop_here ?_) | ((with_reducible show wpAny _ _ (call (Value.ref 68) _ _) _ _ _); refine stop_here ?_)) | with_reducible ((with_reducible show CompPack _); refine stop_here ?_) | with_reducible ((with_reducible show wpAny _ _ (eval (Expr.ListComp _ _ _ _) _) _ _ _); refine stop_here ?_) | with_reducible ((with_reducible show ite _ _ _); first | (refine ite_pos (by ((try simp only [decide_eq_true_eq, beq_iff_eq, bne_iff_ne, ne_eq, Bool.not_eq_true']); omega)) ?_; walk_say "m ite +") | (refine ite_neg (by ((try simp only [decide_eq_true_eq, beq_iff_eq, bne_iff_ne, ne_eq, Bool.not_eq_true']); omega)) ?_; walk_say "m ite -")) | with_reducible ((with_reducible show InvEndN _ _ _ _ _ _ _); refine stop_here ?_)) | walk1 | (dsimp only; walk1) | (leave1; walk_say "STEP leave1"; try dsimp only) | fail "no step"))
    refine Stop.of ?_
    rename News _ _ _ _ => nN
    rename Fr _ _ _ _ => nF
    refine' comp_eval (h₀ := h₀) (L := L) (m := frMap nF) (fun v y => ∃ x t u, v = .str x t ∧ y = .bytes (asciiOf x) u) (by with_unfolding_all rfl) (by with_unfolding_all rfl) (by decide) (by with_unfolding_all rfl) (by decide) (by with_unfolding_all rfl) ?_ (by intro _; with_unfolding_all rfl)
    try dsimp only [frMap]
    refine wpAny_compPack ?_
    (repeat' (first | (k_unfold; (try dsimp only)) | (first | with_reducible ((with_reducible show wpAny _ _ (execs (Stmt.Assign [Expr.Tuple _ _ _] _ _ :: _) _) _ _ _); refine stop_here ?_) | with_reducible ((with_reducible show wpAny _ _ (compareOp CmpOp.NotEq (Value.ref _) (Value.ref _)) _ _ _); refine stop_here ?_) | with_reducible ((with_reducible show wpAny _ _ (call (Value.builtin "str.encode") _ _) _ _ _); (refine encode_call (by first | exact list_chars (Hid.out (by assumption)) | exact mapS_chars (sub1_lt (by decide)) (list_chars (Hid.out (by assumption))) | exact mapS_chars (sub1_lt (by decide)) (mapS_chars (sub1_lt (by decide)) (list_chars (Hid.out (by assumption))))) (by first | exact Nat.le_trans (by assumption) (by decide) | (refine Nat.le_trans (Nat.le_of_eq (mapS_len _ _)) ?_; first | exact Nat.le_trans (by assumption) (by decide) | (refine Nat.le_trans (Nat.le_of_eq (mapS_len _ _)) ?_; exact Nat.le_trans (by assumption) (by decide)))) ?_; intro t9 k9; (try dsimp only))) | ((with_reducible show wpAny _ _ (call (Value.builtin "str.encode") _ _) _ _ _); (refine encode_call (by first | exact list_chars (Hid.out (by assumption)) | exact mapS_chars (sub1_lt (by decide)) (list_chars (Hid.out (by assumption))) | exact mapS_chars (sub1_lt (by decide)) (mapS_chars (sub1_lt (by decide)) (list_chars (Hid.out (by assumption))))) (by first | exact Nat.le_trans (by assumption) (by decide) | (refine Nat.le_trans (Nat.le_of_eq (mapS_len _ _)) ?_; first | exact Nat.le_trans (by assumption) (by decide) | (refine Nat.le_trans (Nat.le_of_eq (mapS_len _ _)) ?_; exact Nat.le_trans (by assumption) (by decide)))) ?_; intro t9 k9; (try dsimp only))) | with_reducible ((with_reducible show wpAny _ _ (getMethod (Value.str _ _) _ _) _ _ _); (k_here; with_reducible refine getm_encode ?_)) | with_reducible ((with_reducible show wpAny _ _ (call (Value.ref _) _ _) _ _ _); first | ((with_reducible show wpAny _ _ (call (Value.ref 198) _ _) _ _ _); refine stop_here ?_) | ((with_reducible show wpAny _ _ (call (Value.ref 184) _ _) _ _ _); refine stop_here ?_) | ((with_reducible show wpAny _ _ (call (Value.ref 68) _ _) _ _ _); refine stop_here ?_)) | with_reducible ((with_reducible show CompPack _); refine stop_here ?_) | with_reducible ((with_reducible show wpAny _ _ (eval (Expr.ListComp _ _ _ _) _) _ _ _); refine stop_here ?_) | with_reducible ((with_reducible show ite _ _ _); first | (refine ite_pos (by ((try simp only [decide_eq_true_eq, beq_iff_eq, bne_iff_ne, ne_eq, Bool.not_eq_true']); omega)) ?_; walk_say "m ite +") | (refine ite_neg (by ((try simp only [decide_eq_true_eq, beq_iff_eq, bne_iff_ne, ne_eq, Bool.not_eq_true']); omega)) ?_; walk_say "m ite -")) | with_reducible ((with_reducible show InvEndN _ _ _ _ _ _ _); refine stop_here ?_)) | walk1 | (dsimp only; walk1) | (leave1; walk_say "STEP leave1"; try dsimp only) | fail "no step"))
    refine Stop.of (CompPack.intro ?_)
    refine' ⟨_, _, _, rfl, News.isList (by k_asm) (by k_mem), ?_, nF, nN, ?_, ?_⟩
    · rw [sizeLine_eq]; exact Nat.le_of_ble_eq_true rfl
    · intro C' v s₂ m₂ E' hmem hn hm cF' cN'
      have cE' := InElt.start s₂.heap
      simp only [List.mem_cons, List.not_mem_nil, or_false] at hmem
      rcases hmem with rfl | rfl | rfl
      all_goals ((repeat' (first | (k_unfold; (try dsimp only)) | (first | with_reducible ((with_reducible show wpAny _ _ (execs (Stmt.Assign [Expr.Tuple _ _ _] _ _ :: _) _) _ _ _); refine stop_here ?_) | with_reducible ((with_reducible show wpAny _ _ (compareOp CmpOp.NotEq (Value.ref _) (Value.ref _)) _ _ _); refine stop_here ?_) | with_reducible ((with_reducible show wpAny _ _ (call (Value.builtin "str.encode") _ _) _ _ _); (refine encode_call (by first | exact list_chars (Hid.out (by assumption)) | exact mapS_chars (sub1_lt (by decide)) (list_chars (Hid.out (by assumption))) | exact mapS_chars (sub1_lt (by decide)) (mapS_chars (sub1_lt (by decide)) (list_chars (Hid.out (by assumption))))) (by first | exact Nat.le_trans (by assumption) (by decide) | (refine Nat.le_trans (Nat.le_of_eq (mapS_len _ _)) ?_; first | exact Nat.le_trans (by assumption) (by decide) | (refine Nat.le_trans (Nat.le_of_eq (mapS_len _ _)) ?_; exact Nat.le_trans (by assumption) (by decide)))) ?_; intro t9 k9; (try dsimp only))) | ((with_reducible show wpAny _ _ (call (Value.builtin "str.encode") _ _) _ _ _); (refine encode_call (by first | exact list_chars (Hid.out (by assumption)) | exact mapS_chars (sub1_lt (by decide)) (list_chars (Hid.out (by assumption))) | exact mapS_chars (sub1_lt (by decide)) (mapS_chars (sub1_lt (by decide)) (list_chars (Hid.out (by assumption))))) (by first | exact Nat.le_trans (by assumption) (by decide) | (refine Nat.le_trans (Nat.le_of_eq (mapS_len _ _)) ?_; first | exact Nat.le_trans (by assumption) (by decide) | (refine Nat.le_trans (Nat.le_of_eq (mapS_len _ _)) ?_; exact Nat.le_trans (by assumption) (by decide)))) ?_; intro t9 k9; (try dsimp only))) | with_reducible ((with_reducible show wpAny _ _ (getMethod (Value.str _ _) _ _) _ _ _); (k_here; with_reducible refine getm_encode ?_)) | with_reducible ((with_reducible show wpAny _ _ (call (Value.ref _) _ _) _ _ _); first | ((with_reducible show wpAny _ _ (call (Value.ref 198) _ _) _ _ _); refine stop_here ?_) | ((with_reducible show wpAny _ _ (call (Value.ref 184) _ _) _ _ _); refine stop_here ?_) | ((with_reducible show wpAny _ _ (call (Value.ref 68) _ _) _ _ _); refine stop_here ?_)) | with_reducible ((with_reducible show CompPack _); refine stop_here ?_) | with_reducible ((with_reducible show wpAny _ _ (eval (Expr.ListComp _ _ _ _) _) _ _ _); refine stop_here ?_) | with_reducible ((with_reducible show ite _ _ _); first | (refine ite_pos (by ((try simp only [decide_eq_true_eq, beq_iff_eq, bne_iff_ne, ne_eq, Bool.not_eq_true']); omega)) ?_; walk_say "m ite +") | (refine ite_neg (by ((try simp only [decide_eq_true_eq, beq_iff_eq, bne_iff_ne, ne_eq, Bool.not_eq_true']); omega)) ?_; walk_say "m ite -")) | with_reducible ((with_reducible show InvEndN _ _ _ _ _ _ _); refine stop_here ?_)) | walk1 | (dsimp only; walk1) | (leave1; walk_say "STEP leave1"; try dsimp only) | fail "no step")))
      all_goals exact ⟨_, _, rfl, fun _ _ e => e⟩
    · intro D4 ys4 n4 h4 tk4 F4 N4 hne4 hp4
      clear nF nN
      obtain ⟨b1, b2, b3, rfl, ⟨_, _, v1, e1, rfl⟩, ⟨_, _, v2, e2, rfl⟩, ⟨_, _, v3, e3, rfl⟩⟩ := paired3 hp4
      injection e1 with e1 e1'; subst e1; subst e1'
      injection e2 with e2 e2'; subst e2; subst e2'
      injection e3 with e3 e3'; subst e3; subst e3'
      clear hp4 hne4
      (repeat' (first | (k_unfold; (try dsimp only)) | (first | with_reducible ((with_reducible show wpAny _ _ (execs (Stmt.Assign [Expr.Tuple _ _ _] _ _ :: _) _) _ _ _); refine stop_here ?_) | with_reducible ((with_reducible show wpAny _ _ (compareOp CmpOp.NotEq (Value.ref _) (Value.ref _)) _ _ _); refine stop_here ?_) | with_reducible ((with_reducible show wpAny _ _ (call (Value.builtin "str.encode") _ _) _ _ _); (refine encode_call (by first | exact list_chars (Hid.out (by assumption)) | exact mapS_chars (sub1_lt (by decide)) (list_chars (Hid.out (by assumption))) | exact mapS_chars (sub1_lt (by decide)) (mapS_chars (sub1_lt (by decide)) (list_chars (Hid.out (by assumption))))) (by first | exact Nat.le_trans (by assumption) (by decide) | (refine Nat.le_trans (Nat.le_of_eq (mapS_len _ _)) ?_; first | exact Nat.le_trans (by assumption) (by decide) | (refine Nat.le_trans (Nat.le_of_eq (mapS_len _ _)) ?_; exact Nat.le_trans (by assumption) (by decide)))) ?_; intro t9 k9; (try dsimp only))) | ((with_reducible show wpAny _ _ (call (Value.builtin "str.encode") _ _) _ _ _); (refine encode_call (by first | exact list_chars (Hid.out (by assumption)) | exact mapS_chars (sub1_lt (by decide)) (list_chars (Hid.out (by assumption))) | exact mapS_chars (sub1_lt (by decide)) (mapS_chars (sub1_lt (by decide)) (list_chars (Hid.out (by assumption))))) (by first | exact Nat.le_trans (by assumption) (by decide) | (refine Nat.le_trans (Nat.le_of_eq (mapS_len _ _)) ?_; first | exact Nat.le_trans (by assumption) (by decide) | (refine Nat.le_trans (Nat.le_of_eq (mapS_len _ _)) ?_; exact Nat.le_trans (by assumption) (by decide)))) ?_; intro t9 k9; (try dsimp only))) | with_reducible ((with_reducible show wpAny _ _ (getMethod (Value.str _ _) _ _) _ _ _); (k_here; with_reducible refine getm_encode ?_)) | with_reducible ((with_reducible show wpAny _ _ (call (Value.ref _) _ _) _ _ _); first | ((with_reducible show wpAny _ _ (call (Value.ref 198) _ _) _ _ _); refine stop_here ?_) | ((with_reducible show wpAny _ _ (call (Value.ref 184) _ _) _ _ _); refine stop_here ?_) | ((with_reducible show wpAny _ _ (call (Value.ref 68) _ _) _ _ _); refine stop_here ?_)) | with_reducible ((with_reducible show CompPack _); refine stop_here ?_) | with_reducible ((with_reducible show wpAny _ _ (eval (Expr.ListComp _ _ _ _) _) _ _ _); refine stop_here ?_) | with_reducible ((with_reducible show ite _ _ _); first | (refine ite_pos (by ((try simp only [decide_eq_true_eq, beq_iff_eq, bne_iff_ne, ne_eq, Bool.not_eq_true']); omega)) ?_; walk_say "m ite +") | (refine ite_neg (by ((try simp only [decide_eq_true_eq, beq_iff_eq, bne_iff_ne, ne_eq, Bool.not_eq_true']); omega)) ?_; walk_say "m ite -")) | with_reducible ((with_reducible show InvEndN _ _ _ _ _ _ _); refine stop_here ?_)) | walk1 | (dsimp only; walk1) | (leave1; walk_say "STEP leave1"; try dsimp only) | fail "no step"))
      refine Stop.of ?_
      refine ne_same3 (News.isList (by k_asm) (by k_mem)) (News.isList (by k_asm) (by k_mem)) (by k_units) ?_
      (repeat' (first | (k_unfold; (try dsimp only)) | (first | with_reducible ((with_reducible show wpAny _ _ (execs (Stmt.Assign [Expr.Tuple _ _ _] _ _ :: _) _) _ _ _); refine stop_here ?_) | with_reducible ((with_reducible show wpAny _ _ (compareOp CmpOp.NotEq (Value.ref _) (Value.ref _)) _ _ _); refine stop_here ?_) | with_reducible ((with_reducible show wpAny _ _ (call (Value.builtin "str.encode") _ _) _ _ _); (refine encode_call (by first | exact list_chars (Hid.out (by assumption)) | exact mapS_chars (sub1_lt (by decide)) (list_chars (Hid.out (by assumption))) | exact mapS_chars (sub1_lt (by decide)) (mapS_chars (sub1_lt (by decide)) (list_chars (Hid.out (by assumption))))) (by first | exact Nat.le_trans (by assumption) (by decide) | (refine Nat.le_trans (Nat.le_of_eq (mapS_len _ _)) ?_; first | exact Nat.le_trans (by assumption) (by decide) | (refine Nat.le_trans (Nat.le_of_eq (mapS_len _ _)) ?_; exact Nat.le_trans (by assumption) (by decide)))) ?_; intro t9 k9; (try dsimp only))) | ((with_reducible show wpAny _ _ (call (Value.builtin "str.encode") _ _) _ _ _); (refine encode_call (by first | exact list_chars (Hid.out (by assumption)) | exact mapS_chars (sub1_lt (by decide)) (list_chars (Hid.out (by assumption))) | exact mapS_chars (sub1_lt (by decide)) (mapS_chars (sub1_lt (by decide)) (list_chars (Hid.out (by assumption))))) (by first | exact Nat.le_trans (by assumption) (by decide) | (refine Nat.le_trans (Nat.le_of_eq (mapS_len _ _)) ?_; first | exact Nat.le_trans (by assumption) (by decide) | (refine Nat.le_trans (Nat.le_of_eq (mapS_len _ _)) ?_; exact Nat.le_trans (by assumption) (by decide)))) ?_; intro t9 k9; (try dsimp only))) | with_reducible ((with_reducible show wpAny _ _ (getMethod (Value.str _ _) _ _) _ _ _); (k_here; with_reducible refine getm_encode ?_)) | with_reducible ((with_reducible show wpAny _ _ (call (Value.ref _) _ _) _ _ _); first | ((with_reducible show wpAny _ _ (call (Value.ref 198) _ _) _ _ _); refine stop_here ?_) | ((with_reducible show wpAny _ _ (call (Value.ref 184) _ _) _ _ _); refine stop_here ?_) | ((with_reducible show wpAny _ _ (call (Value.ref 68) _ _) _ _ _); refine stop_here ?_)) | with_reducible ((with_reducible show CompPack _); refine stop_here ?_) | with_reducible ((with_reducible show wpAny _ _ (eval (Expr.ListComp _ _ _ _) _) _ _ _); refine stop_here ?_) | with_reducible ((with_reducible show ite _ _ _); first | (refine ite_pos (by ((try simp only [decide_eq_true_eq, beq_iff_eq, bne_iff_ne, ne_eq, Bool.not_eq_true']); omega)) ?_; walk_say "m ite +") | (refine ite_neg (by ((try simp only [decide_eq_true_eq, beq_iff_eq, bne_iff_ne, ne_eq, Bool.not_eq_true']); omega)) ?_; walk_say "m ite -")) | with_reducible ((with_reducible show InvEndN _ _ _ _ _ _ _); refine stop_here ?_)) | walk1 | (dsimp only; walk1) | (leave1; walk_say "STEP leave1"; try dsimp only) | fail "no step"))
      refine Stop.of ?_
      rename News _ _ _ _ => nN
      rename Fr _ _ _ _ => nF
      replace nF : Fr h₀ L _ (kstB m [(Str.ofString "writers", .ref lw), (Str.ofString "pages", .ref lp)]) := nF
      rw [kstB_self hb.all] at nF
      exact next.out _ _ nF fun p hp => nN p (.tail _ (.tail _ hp))
end
section
/-- a pair of readers for the figures p and q -/
structure Reader (w : World) (loose : List Str) (mean : ExcName → Option Value) (mg mb : Str → Option Value) (objs : List (Addr × Obj)) (p q : Int) (la sa : Addr) : Prop where
  ex : ∃ alt, AltIs alt p q ∧ Reads w loose mean mg mb objs la alt false ∧ Reads w loose mean mg mb objs sa alt true
abbrev tupObj (xs : List Value) : Obj := { cls := .type "tuple", data := .seq xs.toArray }
theorem two_chars {p q : Int} (hp : 0 ≤ p ∧ p < 64) (hq : 0 ≤ q ∧ q < 64) : AsBytes (.str (sgnS p ++ sgnS q) t) (asciiOf (sgnS p ++ sgnS q)) := by
  have e : (sgnS p ++ sgnS q).cps = #[sgnC p, sgnC q] := by rw [Str.cps_append]; simp [sgnS]
  refine .str _ _ (fun c hc => ?_) (by rw [e]; exact Nat.le_of_ble_eq_true rfl)
  rw [e] at hc
  simp only [List.mem_cons, List.not_mem_nil, or_false] at hc
  rcases hc with rfl | rfl
  · exact (sgn_at hp).1
  · exact (sgn_at hq).1
theorem two_size {p q : Int} : (asciiOf (sgnS p ++ sgnS q)).size = 2 := by
  have e : (sgnS p ++ sgnS q).cps = #[sgnC p, sgnC q] := by rw [Str.cps_append]; simp [sgnS]
  rw [ascii_size]
  show (sgnS p ++ sgnS q).cps.size = 2
  rw [e]; rfl
theorem getD_mem {fs : List Int} {i : Nat} (h : i < fs.length) : fs.getD i 0 ∈ fs := by
  rw [List.getD_eq_getElem?_getD, List.getElem?_eq_getElem h]; exact List.getElem_mem h
theorem law_c {w : World} {loose : List Str} {mean : ExcName → Option Value} {mg mb : Str → Option Value} {h₀ : Heap} {s : Shared} {Q : Flow → Shared → Prop} {E : Value → Shared → Prop} {L f c' D am : Addr} {fs : List Int} {m : Str → Option Value} {wT oO : Obj} {n1 nn : Nat} {n0 : Int} {tn tz tl : Tok} {ys vs : List Value} {k6 : Nat}
    {name qual : Str} {params : Arguments} {body : List Stmt} {scope : Scope} {dV kV doc pm cdv ct oc : Value} {an od : Option Addr} {osl : Array (Option Value)}
    (ho : (hd.heap_1 w.params).lookup 208 = some ⟨oc, od, .func (fnOf name qual params body scope dV kV doc pm an cdv ct), osl⟩)
    (B : Below callerA h₀ [] h₀) (X : (hd.heap_1 w.params).In h₀) (T : Top topProg loose mean mg mb h₀) (C : CodeHd h₀ 207 205)
    (hb : Binds m [(Str.ofString "n", .int n0 tn), (Str.ofString "size", .int (fs.length : Int) tz), (Str.ofString "listing", .str (listS fs) tl), (Str.ofString "figures", .ref D), (Str.ofString "modes", .ref am)])
    (F : Fr h₀ L s.heap m)
    (N : News h₀ L s.heap [(D, W.listOf ys.toArray n1), (am, W.listOf vs.toArray nn), (L + 1 + 1, wT), (L + 1, oO), (205, tabObj (#[] ++ #[rawInt 250, rawInt 0, .ref c']))])
    (hwT : wT.data = .cell none) (l0 : @LT.lt Nat instLTNat 205 L) (l1 : @Ne Nat am (L + 1 + 1) ∧ @Ne Nat am (L + 1) ∧ @Ne Nat am 205) (l2 : @Ne Nat D (L + 1 + 1) ∧ @Ne Nat D (L + 1) ∧ @Ne Nat D 205)
    (hI : IntsAre ys fs) (hin : Hid (∀ f ∈ fs, 0 ≤ f ∧ f < 64)) (hfl : fs.length = 10 * k6) (hk6 : 0 < k6 ∧ k6 ≤ 6) (hvl : vs.length = k6)
    (next : Hid (∀ h' tk' (m' : Str → Option Value) news (rl r1 r2 r3 r4 la1 sa1 sa2 sa3 la4 sa4 : Addr) (q1 q2 q3 q4 q5 q6 q7 q8 : Tok) (k : Nat) (p q : Int) ps, Fr h₀ L h' m' → News h₀ L h' news →
      Binds m' [(Str.ofString "n", .int n0 tn), (Str.ofString "size", .int (fs.length : Int) tz), (Str.ofString "listing", .str (listS fs) tl), (Str.ofString "figures", .ref D), (Str.ofString "modes", .ref am), (Str.ofString "readers", .ref rl)] →
      (rl, W.listOf #[.ref r1, .ref r2, .ref r3, .ref r4] k) ∈ news → (r1, tupObj [.int 62 q1, .int 63 q2, .ref la1, .ref sa1]) ∈ news → (r2, tupObj [.int 62 q3, .int 64 q4, .ref 177, .ref sa2]) ∈ news → (r3, tupObj [.int 64 q5, .int 64 q6, .ref 163, .ref sa3]) ∈ news → (r4, tupObj [.int p q7, .int q q8, .ref la4, .ref sa4]) ∈ news →
      (D, W.listOf ys.toArray n1) ∈ news → (am, W.listOf vs.toArray nn) ∈ news → (205, tabObj ps) ∈ news →
      Reader w loose mean mg mb news 62 63 la1 sa1 → Reader w loose mean mg mb news 62 64 177 sa2 → Reader w loose mean mg mb news 64 64 163 sa3 → Reader w loose mean mg mb news p q la4 sa4 →
      wpAny (model Challenge.rw_qh0096_01.row.prog w) (callerA.deeper (envOfC qual scope L f cdv)) (execs (body.drop 13) (envOfC qual scope L f cdv)) Q E { s with heap := h', toks := tk' })) :
    wpAny (model Challenge.rw_qh0096_01.row.prog w) (callerA.deeper (envOfC qual scope L f cdv)) (execs (body.drop 10) (envOfC qual scope L f cdv)) Q E s := by
  revert X; k_fill; intro X
  have hc := Option.some.inj (ho.symm.trans (show _ = some _ from by k_is))
  dsimp only [fnOf] at hc
  cases hc
  clear ho
  dsimp only [List.drop]
  try k_fold
  rw [← kstB_self hb.all] at F
  dsimp only [kstB] at F
  have hyl := hI.length
  have hll := listS_len fs
  have hpos : (0 : Int) < (fs.length : Int) := by omega
  have i0 : 0 ≤ n0.fmod (fs.length : Int) := Int.fmod_nonneg_of_pos _ hpos
  have i1 : n0.fmod (fs.length : Int) < (fs.length : Int) := Int.fmod_lt_of_pos _ hpos
  have j0 : 0 ≤ (n0.fdiv (fs.length : Int)).fmod (fs.length : Int) := Int.fmod_nonneg_of_pos _ hpos
  have j1 : (n0.fdiv (fs.length : Int)).fmod (fs.length : Int) < (fs.length : Int) := Int.fmod_lt_of_pos _ hpos
  (repeat' (first | (k_unfold; (try dsimp only)) | (first | with_reducible ((with_reducible show wpAny _ _ (storeName _ _ (Value.str _ _)) _ _ _); refine stop_here ?_) | with_reducible ((with_reducible show wpAny _ _ (execs (Stmt.For _ _ _ _ _ :: _) _) _ _ _); refine stop_here ?_) | with_reducible (k_here; (with_reducible show wpAny _ _ (subscriptTail _ _ (Value.str _ _) (Value.int _ _)) _ _ _); (refine KXi.item (listS_len _) (by omega) (by assumption) (by omega) ?_); intro kxiE; clear kxiE; (try dsimp only)) | with_reducible ((with_reducible show wpAny _ _ (binaryOp Operator.Add (Value.str _ _) (Value.str _ _)) _ _ _); refine stop_here ?_) | with_reducible ((with_reducible show wpAny _ _ (eval (Expr.Lambda _ _ _ _) _) _ _ _); (k_here; kn_here; k_dflt (refine' kla_eval (by exact rfl) ?_); k_dflt (refine' kla_nest (by k_asm) (by k_asm) (by k_asm) (by kn_code) (by exact rfl) (by k_updF) (by (simp [TriplesOk, rawInt]; done)) (by (simp [codeAmong, rawInt]; done)) (by exact rfl) ?_; k_whole); intro f' c' oc' vs' t' ct' h' tk' F' N' d1' d2' l1 l2; (try dsimp only at N'); (try k_lt l1); (try k_lt2 l2))) | with_reducible ((with_reducible show ite _ _ _); first | (refine ite_pos (by ((try simp only [decide_eq_true_eq, beq_iff_eq, bne_iff_ne, ne_eq, Bool.not_eq_true']); omega)) ?_; walk_say "m ite +") | (refine ite_neg (by ((try simp only [decide_eq_true_eq, beq_iff_eq, bne_iff_ne, ne_eq, Bool.not_eq_true']); omega)) ?_; walk_say "m ite -")) | with_reducible ((with_reducible show InvEndN _ _ _ _ _ _ _); refine stop_here ?_)) | walk1 | (dsimp only; walk1) | (leave1; walk_say "STEP leave1"; try dsimp only) | fail "no step"))
  refine Stop.of ?_
  try dsimp only
  rw [item_sgn i0 i1, item_sgn j0 j1]
  have hp1 : fs.getD (n0.fmod (fs.length : Int)).toNat 0 ∈ fs := getD_mem (by omega)
  have hq1 : fs.getD ((n0.fdiv (fs.length : Int)).fmod (fs.length : Int)).toNat 0 ∈ fs := getD_mem (by omega)
  refine KXadd.add (K := 1) (L := 1) (Nat.le_refl 1) (Nat.le_refl 1) (by decide) ?_
  intro t9 k9 hl9
  clear hl9
  dsimp only
  (repeat' (first | (k_unfold; (try dsimp only)) | (first | with_reducible ((with_reducible show wpAny _ _ (storeName _ _ (Value.str _ _)) _ _ _); refine stop_here ?_) | with_reducible ((with_reducible show wpAny _ _ (execs (Stmt.For _ _ _ _ _ :: _) _) _ _ _); refine stop_here ?_) | with_reducible (k_here; (with_reducible show wpAny _ _ (subscriptTail _ _ (Value.str _ _) (Value.int _ _)) _ _ _); (refine KXi.item (listS_len _) (by omega) (by assumption) (by omega) ?_); intro kxiE; clear kxiE; (try dsimp only)) | with_reducible ((with_reducible show wpAny _ _ (binaryOp Operator.Add (Value.str _ _) (Value.str _ _)) _ _ _); refine stop_here ?_) | with_reducible ((with_reducible show wpAny _ _ (eval (Expr.Lambda _ _ _ _) _) _ _ _); (k_here; kn_here; k_dflt (refine' kla_eval (by exact rfl) ?_); k_dflt (refine' kla_nest (by k_asm) (by k_asm) (by k_asm) (by kn_code) (by exact rfl) (by k_updF) (by (simp [TriplesOk, rawInt]; done)) (by (simp [codeAmong, rawInt]; done)) (by exact rfl) ?_; k_whole); intro f' c' oc' vs' t' ct' h' tk' F' N' d1' d2' l1 l2; (try dsimp only at N'); (try k_lt l1); (try k_lt2 l2))) | with_reducible ((with_reducible show ite _ _ _); first | (refine ite_pos (by ((try simp only [decide_eq_true_eq, beq_iff_eq, bne_iff_ne, ne_eq, Bool.not_eq_true']); omega)) ?_; walk_say "m ite +") | (refine ite_neg (by ((try simp only [decide_eq_true_eq, beq_iff_eq, bne_iff_ne, ne_eq, Bool.not_eq_true']); omega)) ?_; walk_say "m ite -")) | with_reducible ((with_reducible show InvEndN _ _ _ _ _ _ _); refine stop_here ?_)) | walk1 | (dsimp only; walk1) | (leave1; walk_say "STEP leave1"; try dsimp only) | fail "no step"))
  refine Stop.of ?_
  refine' storeX_C ?F ?N ?c ?U ?d ?_ ?a ?b
  case a => rfl
  case b => rfl
  case F => k_asm
  case N => k_asm
  case c => rfl
  case U => k_updF
  case d => k_asm
  intro h8 o8 F8 N8 d8
  try dsimp only at N8
  (repeat' (first | (k_unfold; (try dsimp only)) | (first | with_reducible ((with_reducible show wpAny _ _ (storeName _ _ (Value.str _ _)) _ _ _); refine stop_here ?_) | with_reducible ((with_reducible show wpAny _ _ (execs (Stmt.For _ _ _ _ _ :: _) _) _ _ _); refine stop_here ?_) | with_reducible (k_here; (with_reducible show wpAny _ _ (subscriptTail _ _ (Value.str _ _) (Value.int _ _)) _ _ _); (refine KXi.item (listS_len _) (by omega) (by assumption) (by omega) ?_); intro kxiE; clear kxiE; (try dsimp only)) | with_reducible ((with_reducible show wpAny _ _ (binaryOp Operator.Add (Value.str _ _) (Value.str _ _)) _ _ _); refine stop_here ?_) | with_reducible ((with_reducible show wpAny _ _ (eval (Expr.Lambda _ _ _ _) _) _ _ _); (k_here; kn_here; k_dflt (refine' kla_eval (by exact rfl) ?_); k_dflt (refine' kla_nest (by k_asm) (by k_asm) (by k_asm) (by kn_code) (by exact rfl) (by k_updF) (by (simp [TriplesOk, rawInt]; done)) (by (simp [codeAmong, rawInt]; done)) (by exact rfl) ?_; k_whole); intro f' c' oc' vs' t' ct' h' tk' F' N' d1' d2' l1 l2; (try dsimp only at N'); (try k_lt l1); (try k_lt2 l2))) | with_reducible ((with_reducible show ite _ _ _); first | (refine ite_pos (by ((try simp only [decide_eq_true_eq, beq_iff_eq, bne_iff_ne, ne_eq, Bool.not_eq_true']); omega)) ?_; walk_say "m ite +") | (refine ite_neg (by ((try simp only [decide_eq_true_eq, beq_iff_eq, bne_iff_ne, ne_eq, Bool.not_eq_true']); omega)) ?_; walk_say "m ite -")) | with_reducible ((with_reducible show InvEndN _ _ _ _ _ _ _); refine stop_here ?_)) | walk1 | (dsimp only; walk1) | (leave1; walk_say "STEP leave1"; try dsimp only) | fail "no step"))
  refine Stop.of ?_
  rename News _ _ _ _ => nN
  rename Fr _ _ _ _ => nF
  have ht2 := two_chars (t := t9) (hin.out _ hp1) (hin.out _ hq1)
  refine' next.out _ _ _ _ _ _ _ _ _ _ _ _ _ _ _ _ _ _ _ _ _ _ _ _ _ _ _ nF nN ⟨rfl, rfl, rfl, rfl, rfl, rfl, trivial⟩ ?a1 ?a2 ?a3 ?a4 ?a5 ?a6 ?a7 ?a8 ?z1 ?z2 ?z3 ?z4
  case a1 => k_mem
  case a2 => k_mem
  case a3 => k_mem
  case a4 => k_mem
  case a5 => k_mem
  case a6 => k_mem
  case a7 => k_mem
  case a8 => k_mem
  case z1 => exact ⟨_, alt_q, lam_alt ⟨⟨_, _, _, _, _, _, _, _, by k_mem, by k_mem, by assumption, by assumption⟩⟩, lam_altT ⟨⟨_, _, _, _, _, _, _, _, by k_mem, by k_mem, by assumption, by assumption⟩⟩⟩
  case z2 => exact ⟨_, alt_u, reads_url, lam_altT ⟨⟨_, _, _, _, _, _, _, _, by k_mem, by k_mem, by assumption, by assumption⟩⟩⟩
  case z3 => exact ⟨_, .none, reads_std, lam_noneT (u := 0) (v := 0) ⟨⟨_, _, _, _, _, _, _, _, by k_mem, by k_mem, by assumption, by assumption⟩⟩⟩
  case z4 => exact ⟨_, alt_two (hin.out _ hp1) (hin.out _ hq1), lam_two (k := 0) (u := 0) (v := 0) ⟨⟨_, _, _, _, _, _, _, _, by k_mem, by k_mem, by assumption, by assumption⟩⟩ (by k_mem) d8 ht2 two_size, lam_twoT (k := 0) (u := 0) (v := 0) ⟨⟨_, _, _, _, _, _, _, _, by k_mem, by k_mem, by assumption, by assumption⟩⟩ (by k_mem) d8 ht2 two_size⟩
end
section
theorem newsCons {h₀ h : Heap} {L : Addr} {p : Addr × Obj} {nx : List (Addr × Obj)} (N : News h₀ L h nx) (hp : h.get? p.1 = some p.2 ∧ p.1 ≠ L ∧ h₀.get? p.1 = none) : News h₀ L h (p :: nx) := by
  intro x hx
  rcases List.mem_cons.mp hx with rfl | hx
  · exact hp
  · exact N x hx
theorem slice_list {fs : List Int} {e : Int} (h0 : 0 ≤ e) (h1 : e ≤ (fs.length : Int)) : Txt.slice (listS fs) none (some e) = listS (fs.take e.toNat) := by
  have hl : (listS fs).cps.toList.length = fs.length := by simp [listS]
  have h := eq_of_beq (slice_closes_to (x := listS fs) (j := e) ⟨h0, by rw [hl]; exact h1⟩)
  rw [h]
  apply str_ext
  rw [list_take]
  simp
theorem read_use {w : World} {loose : List Str} {mean : ExcName → Option Value} {mg mb : Str → Option Value} {A₀ A : Around} {h₀ : Heap} {s : Shared} {Q E : Value → Shared → Prop} {L : Addr} {m : Str → Option Value} {nx news : List (Addr × Obj)} {env : Env} {x : Str} {t tp tq : Tok} {a la sa : Addr} {p q : Int} {vs : List Value} {fs : List Int} {n : Nat}
    (B : Below A₀ h₀ [] h₀) (F : Fr h₀ L s.heap m) (X : (hd.heap_1 w.params).In h₀) (N : News h₀ L s.heap nx) (T : Top topProg loose mean mg mb h₀)
    (hA : A.frames = some [env]) (hf : env.frame = some L) (hk : env.scope.kind = .function) (hh : A.handled = none) (hd : A.depth ≤ 850) (hu : A.units ≤ 8500)
    (hobj : ∀ p ∈ news, p ∈ nx) (hL : (a, W.listOf vs.toArray n) ∈ nx) (hI : IntsAre vs fs) (hlen : fs.length ≤ 60) (hin : ∀ f ∈ fs, 0 ≤ f ∧ f < 64) (hx : x = listS fs) (R : Reader w loose mean mg mb news p q la sa)
    (h : ∀ h' tk', Fr h₀ L h' m → News h₀ L h' nx → Q (.bool true) { s with heap := h', toks := tk' }) :
    wpAny (model Challenge.rw_qh0096_01.row.prog w) A (call (.ref 203) [.str x t, .ref a, .int p tp, .int q tq, .ref la, .ref sa]) Q E s := by
  subst hx
  have hfs : framesOf [env] = [L] := by simp [framesOf, hf]
  obtain ⟨alt, hA1, hl, hs⟩ := R.ex
  have S : Stand nx s.heap := fun p hp => (N p hp).1
  have mono : ∀ {la : Addr} {alt : Option (Array UInt8)} {st : Bool}, Reads w loose mean mg mb news la alt st → Reads w loose mean mg mb nx la alt st := fun R =>
    ⟨fun h S X => R.fn h (fun p hp => S p (hobj p hp)) X, fun base outer gd s Q E v b xs k S => R.go base outer gd s Q E v b xs k fun p hp => S p (hobj p hp)⟩
  have hl := mono hl
  have hs := mono hs
  refine wpAny_lower (read_ok (objs := nx) (Here.down B F X T rfl hf hk) X T ?_ S ?_ hL hI hlen hin ⟨list_chars hin⟩ (by rw [listS_len]; exact hlen) (deed_l0 hl hA1 hin hlen) (deed_lk hl hA1 hin hlen) (deed_s0 hs hA1 hin hlen) (deed_sk hs hA1 hin hlen) ⟨fun h' tk' k => ?_⟩) hh hA hd hu
  · rw [hfs]
    exact frame_dicts (outer := []) F ktsDicts_nil
  · intro p hp
    rw [hfs]
    exact fun hm => (N p hp).2.1 (List.mem_singleton.mp hm)
  · rw [hfs] at k
    obtain ⟨F1, N1⟩ := turn_frame0 F N k
    exact h h' tk' F1 N1
theorem law_d {w : World} {loose : List Str} {mean : ExcName → Option Value} {mg mb : Str → Option Value} {h₀ : Heap} {s : Shared} {Q : Flow → Shared → Prop} {E : Value → Shared → Prop} {L f D am rl r1 r2 r3 r4 la1 sa1 sa2 sa3 la4 sa4 : Addr} {fs : List Int} {m : Str → Option Value} {n1 nn k : Nat} {n0 p q : Int} {tn tz tl q1 q2 q3 q4 q5 q6 q7 q8 : Tok} {ys vs : List Value} {ms : List Int} {k6 : Nat} {news : List (Addr × Obj)} {ps : Array Value}
    {name qual : Str} {params : Arguments} {body : List Stmt} {scope : Scope} {dV kV doc pm cdv ct oc : Value} {an od : Option Addr} {osl : Array (Option Value)}
    (ho : (hd.heap_1 w.params).lookup 208 = some ⟨oc, od, .func (fnOf name qual params body scope dV kV doc pm an cdv ct), osl⟩)
    (B : Below callerA h₀ [] h₀) (X : (hd.heap_1 w.params).In h₀) (T : Top topProg loose mean mg mb h₀)
    (hb : Binds m [(Str.ofString "n", .int n0 tn), (Str.ofString "size", .int (fs.length : Int) tz), (Str.ofString "listing", .str (listS fs) tl), (Str.ofString "figures", .ref D), (Str.ofString "modes", .ref am), (Str.ofString "readers", .ref rl)])
    (F : Fr h₀ L s.heap m) (N : News h₀ L s.heap news)
    (m0 : (rl, W.listOf #[.ref r1, .ref r2, .ref r3, .ref r4] k) ∈ news) (m1 : (r1, tupObj [.int 62 q1, .int 63 q2, .ref la1, .ref sa1]) ∈ news) (m2 : (r2, tupObj [.int 62 q3, .int 64 q4, .ref 177, .ref sa2]) ∈ news)
    (m3 : (r3, tupObj [.int 64 q5, .int 64 q6, .ref 163, .ref sa3]) ∈ news) (m4 : (r4, tupObj [.int p q7, .int q q8, .ref la4, .ref sa4]) ∈ news)
    (m5 : (D, W.listOf ys.toArray n1) ∈ news) (m6 : (am, W.listOf vs.toArray nn) ∈ news) (m7 : (205, tabObj ps) ∈ news)
    (R1 : Reader w loose mean mg mb news 62 63 la1 sa1) (R2 : Reader w loose mean mg mb news 62 64 177 sa2) (R3 : Reader w loose mean mg mb news 64 64 163 sa3) (R4 : Reader w loose mean mg mb news p q la4 sa4)
    (hE : PassesOwn (model Challenge.rw_qh0096_01.row.prog w) (callerA.deeper (envOfC qual scope L f cdv)) (envOfC qual scope L f cdv) E) (hIm : IntsAre vs ms) (hI : IntsAre ys fs) (hin : Hid (∀ f ∈ fs, 0 ≤ f ∧ f < 64)) (hfl : fs.length = 10 * k6) (hk6 : 0 < k6 ∧ k6 ≤ 6) (hvl : vs.length = k6)
    (hQ : Hid (∀ h' tk' m'' news' ps, Fr h₀ L h' m'' → News h₀ L h' news' → (205, tabObj ps) ∈ news' → Q (.ret (.bool true)) { s with heap := h', toks := tk' })) :
    wpAny (model Challenge.rw_qh0096_01.row.prog w) (callerA.deeper (envOfC qual scope L f cdv)) (execs (body.drop 13) (envOfC qual scope L f cdv)) Q E s := by
  revert X; k_fill; intro X
  have hc := Option.some.inj (ho.symm.trans (show _ = some _ from by k_is))
  dsimp only [fnOf] at hc
  cases hc
  clear ho
  dsimp only [List.drop]
  try k_fold
  rw [← kstB_self hb.all] at F
  dsimp only [kstB] at F
  have hyl := hI.length
  have hvl2 := hIm.length
  have hll := listS_len fs
  have N' : News h₀ L s.heap ((rl, W.listOf #[.ref r1, .ref r2, .ref r3, .ref r4] k) :: (r1, tupObj [.int 62 q1, .int 63 q2, .ref la1, .ref sa1]) :: (r2, tupObj [.int 62 q3, .int 64 q4, .ref 177, .ref sa2]) :: (r3, tupObj [.int 64 q5, .int 64 q6, .ref 163, .ref sa3]) :: (r4, tupObj [.int p q7, .int q q8, .ref la4, .ref sa4]) :: (D, W.listOf ys.toArray n1) :: (am, W.listOf vs.toArray nn) :: news) := by
    intro x hx
    simp only [List.mem_cons] at hx
    rcases hx with rfl | rfl | rfl | rfl | rfl | rfl | rfl | hx
    · exact N _ m0
    · exact N _ m1
    · exact N _ m2
    · exact N _ m3
    · exact N _ m4
    · exact N _ m5
    · exact N _ m6
    · exact N _ hx
  clear N
  (repeat' (first | (k_unfold; (try dsimp only)) | (first | with_reducible ((with_reducible show wpAny _ _ (call (Value.ref 203) _ _) _ _ _); refine stop_here ?_) | with_reducible ((with_reducible show UnrPostW _ _ _ _ _ _ _ _); (refine stop_here ?_)) | with_reducible ((with_reducible show wpAny _ _ (pyIter (Value.ref _)) (fun it s₂ => TurnsAt _ _ _ _ _ _ _ _ _ it s₂) _ _); refine stop_here ?_) | with_reducible ((with_reducible show wpAny _ _ (exec (Stmt.For (Expr.Tuple _ _ _) (Expr.Name _ _) (List.cons _ _) [] _) _) _ _ _); (k_here; (rename Fr _ _ _ _ => lF'); (with_unfolding_all refine' For_turns lF' ?_; k_whole))) | with_reducible ((with_reducible show ite _ _ _); first | (refine ite_pos (by ((try simp only [decide_eq_true_eq, beq_iff_eq, bne_iff_ne, ne_eq, Bool.not_eq_true']); omega)) ?_; walk_say "m ite +") | (refine ite_neg (by ((try simp only [decide_eq_true_eq, beq_iff_eq, bne_iff_ne, ne_eq, Bool.not_eq_true']); omega)) ?_; walk_say "m ite -")) | with_reducible ((with_reducible show InvEndN _ _ _ _ _ _ _); refine stop_here ?_)) | walk1 | (dsimp only; walk1) | (leave1; walk_say "STEP leave1"; try dsimp only) | fail "no step"))
  all_goals try exact hE
  refine Stop.of ?_
  rename News _ _ _ _ => nN
  rename Fr _ _ _ _ => nF
  refine iter_tupTurns rfl nF nN (List.Mem.head _) rfl rfl ?_
  intro I lI
  refine items_join (fun _ m' n' => Binds m' [(Str.ofString "listing", .str (listS fs) tl), (Str.ofString "figures", .ref D), (Str.ofString "readers", .ref rl)] ∧ n' = _) ⟨⟨rfl, rfl, rfl, trivial⟩, rfl⟩ ?_ ?_
  · rintro i a ha m9 n9 ⟨hb9, rfl⟩ IH
    have hv : ∃ e te, a = .val (.int e te) ∧ 0 ≤ e ∧ e ≤ (fs.length : Int) := by
      have hi2 : i < 2 := by
        have := (List.getElem?_eq_some_iff.mp ha).1
        simpa using this
      rcases i with _ | _ | i
      · refine ⟨_, _, (Option.some.inj ha).symm, ?_, ?_⟩
        · exact Int.mul_nonneg (Int.fmod_nonneg_of_pos _ (by omega)) (by decide)
        · refine Int.le_trans (Int.mul_le_mul_of_nonneg_right (Int.le_of_lt_add_one (Int.fmod_lt_of_pos _ (by omega))) (by decide)) ?_
          omega
      · exact ⟨_, _, (Option.some.inj ha).symm, by omega, by omega⟩
      · omega
    obtain ⟨e, te, rfl, he0, he1⟩ := hv
    have IH9 := Hid.mk IH
    clear ha IH
    refine ItemsRest.val ?_
    intro h tk F9
    refine AllObj.cons fun oI hoI => AllObj.nil fun N9 => ?_
    clear nF nN
    rw [← kstB_self hb9.all] at F9
    dsimp only [kstB] at F9
    (repeat' (first | (k_unfold; (try dsimp only)) | (first | with_reducible ((with_reducible show wpAny _ _ (call (Value.ref 203) _ _) _ _ _); refine stop_here ?_) | with_reducible ((with_reducible show UnrPostW _ _ _ _ _ _ _ _); (refine stop_here ?_)) | with_reducible ((with_reducible show wpAny _ _ (pyIter (Value.ref _)) (fun it s₂ => TurnsAt _ _ _ _ _ _ _ _ _ it s₂) _ _); refine stop_here ?_) | with_reducible ((with_reducible show wpAny _ _ (exec (Stmt.For (Expr.Tuple _ _ _) (Expr.Name _ _) (List.cons _ _) [] _) _) _ _ _); (k_here; (rename Fr _ _ _ _ => lF'); (with_unfolding_all refine' For_turns lF' ?_; k_whole))) | with_reducible ((with_reducible show ite _ _ _); first | (refine ite_pos (by ((try simp only [decide_eq_true_eq, beq_iff_eq, bne_iff_ne, ne_eq, Bool.not_eq_true']); omega)) ?_; walk_say "m ite +") | (refine ite_neg (by ((try simp only [decide_eq_true_eq, beq_iff_eq, bne_iff_ne, ne_eq, Bool.not_eq_true']); omega)) ?_; walk_say "m ite -")) | with_reducible ((with_reducible show InvEndN _ _ _ _ _ _ _); refine stop_here ?_)) | walk1 | (dsimp only; walk1) | (leave1; walk_say "STEP leave1"; try dsimp only) | fail "no step"))
    all_goals try exact hE
    refine Stop.of ?_
    rename News _ _ _ _ => nN
    rename Fr _ _ _ _ => nF
    refine iter_listTurns rfl nF nN (List.Mem.tail _ (List.Mem.tail _ (List.Mem.head _))) rfl rfl ?_
    intro J lJ
    refine items_join (fun _ m' n' => Binds m' [(Str.ofString "listing", .str (listS fs) tl), (Str.ofString "figures", .ref D), (Str.ofString "readers", .ref rl), (Str.ofString "end", .int e te)] ∧ n' = _) ⟨⟨rfl, rfl, rfl, rfl, trivial⟩, rfl⟩ ?_ ?_
    · rintro i a ha m9 n9 ⟨hb9, rfl⟩ IH
      have hv : ∃ p q la sa q1 q2 r, a = .val (.ref r) ∧ (r, tupObj [.int p q1, .int q q2, .ref la, .ref sa]) ∈ news ∧ Reader w loose mean mg mb news p q la sa := by
        have hi2 : i < 4 := by
          have := (List.getElem?_eq_some_iff.mp ha).1
          simpa using this
        rcases i with _ | _ | _ | _ | i
        · exact ⟨_, _, _, _, _, _, _, (Option.some.inj ha).symm, m1, R1⟩
        · exact ⟨_, _, _, _, _, _, _, (Option.some.inj ha).symm, m2, R2⟩
        · exact ⟨_, _, _, _, _, _, _, (Option.some.inj ha).symm, m3, R3⟩
        · exact ⟨_, _, _, _, _, _, _, (Option.some.inj ha).symm, m4, R4⟩
        · omega
      obtain ⟨p9, q9, la, sa, v1, v2, r, rfl, hr9, R9⟩ := hv
      have IH10 := Hid.mk IH
      clear ha IH
      refine ItemsRest.val ?_
      intro h2 tk2 F10
      refine AllObj.cons fun oJ hoJ => AllObj.nil fun N10 => ?_
      clear nF nN
      rw [← kstB_self hb9.all] at F10
      dsimp only [kstB] at F10
      have N11 := newsCons N10 (N10 _ (by repeat (first | exact hr9 | apply List.mem_cons_of_mem)))
      clear N10
      (repeat' (first | (k_unfold; (try dsimp only)) | (first | with_reducible ((with_reducible show wpAny _ _ (call (Value.ref 203) _ _) _ _ _); refine stop_here ?_) | with_reducible ((with_reducible show UnrPostW _ _ _ _ _ _ _ _); (refine stop_here ?_)) | with_reducible ((with_reducible show wpAny _ _ (pyIter (Value.ref _)) (fun it s₂ => TurnsAt _ _ _ _ _ _ _ _ _ it s₂) _ _); refine stop_here ?_) | with_reducible ((with_reducible show wpAny _ _ (exec (Stmt.For (Expr.Tuple _ _ _) (Expr.Name _ _) (List.cons _ _) [] _) _) _ _ _); (k_here; (rename Fr _ _ _ _ => lF'); (with_unfolding_all refine' For_turns lF' ?_; k_whole))) | with_reducible ((with_reducible show ite _ _ _); first | (refine ite_pos (by ((try simp only [decide_eq_true_eq, beq_iff_eq, bne_iff_ne, ne_eq, Bool.not_eq_true']); omega)) ?_; walk_say "m ite +") | (refine ite_neg (by ((try simp only [decide_eq_true_eq, beq_iff_eq, bne_iff_ne, ne_eq, Bool.not_eq_true']); omega)) ?_; walk_say "m ite -")) | with_reducible ((with_reducible show InvEndN _ _ _ _ _ _ _); refine stop_here ?_)) | walk1 | (dsimp only; walk1) | (leave1; walk_say "STEP leave1"; try dsimp only) | fail "no step"))
      refine Stop.of ?_
      rename News _ _ _ _ => nN
      rename Fr _ _ _ _ => nF
      rw [slice_list he0 he1]
      refine read_use (news := news) B nF X nN T rfl rfl rfl rfl (Nat.le_of_ble_eq_true rfl) (Nat.le_of_ble_eq_true rfl) (fun p hp => by repeat (first | exact hp | apply List.mem_cons_of_mem)) (List.Mem.head _) (by assumption) (by rw [List.length_take]; omega) (fun f hf => hin.out f (List.mem_of_mem_take hf)) rfl R9 ?_
      intro h11 tk11 F11 N11
      clear nF nN
      (repeat' (first | (k_unfold; (try dsimp only)) | (first | with_reducible ((with_reducible show wpAny _ _ (call (Value.ref 203) _ _) _ _ _); refine stop_here ?_) | with_reducible ((with_reducible show UnrPostW _ _ _ _ _ _ _ _); (refine stop_here ?_)) | with_reducible ((with_reducible show wpAny _ _ (pyIter (Value.ref _)) (fun it s₂ => TurnsAt _ _ _ _ _ _ _ _ _ it s₂) _ _); refine stop_here ?_) | with_reducible ((with_reducible show wpAny _ _ (exec (Stmt.For (Expr.Tuple _ _ _) (Expr.Name _ _) (List.cons _ _) [] _) _) _ _ _); (k_here; (rename Fr _ _ _ _ => lF'); (with_unfolding_all refine' For_turns lF' ?_; k_whole))) | with_reducible ((with_reducible show ite _ _ _); first | (refine ite_pos (by ((try simp only [decide_eq_true_eq, beq_iff_eq, bne_iff_ne, ne_eq, Bool.not_eq_true']); omega)) ?_; walk_say "m ite +") | (refine ite_neg (by ((try simp only [decide_eq_true_eq, beq_iff_eq, bne_iff_ne, ne_eq, Bool.not_eq_true']); omega)) ?_; walk_say "m ite -")) | with_reducible ((with_reducible show InvEndN _ _ _ _ _ _ _); refine stop_here ?_)) | walk1 | (dsimp only; walk1) | (leave1; walk_say "STEP leave1"; try dsimp only) | fail "no step"))
      refine Stop.of ?_
      exact ⟨_, _, _, _, rfl, F11, fun p hp => N11 p (.tail _ (.tail _ hp)), fun p hp q hq => by rw [List.mem_singleton.mp hq]; exact Nat.ne_of_lt (lJ p hp), And.intro (List.Mem.tail _ (List.Mem.tail _ (List.Mem.head _))) trivial, IH10.out _ _ ⟨⟨rfl, rfl, rfl, rfl, trivial⟩, rfl⟩⟩
    · rintro m9 n9 ⟨hb9, rfl⟩
      refine ItemsRest.zero ?_
      intro h tk F9 N9
      clear nF nN
      (repeat' (first | (k_unfold; (try dsimp only)) | (first | with_reducible ((with_reducible show wpAny _ _ (call (Value.ref 203) _ _) _ _ _); refine stop_here ?_) | with_reducible ((with_reducible show UnrPostW _ _ _ _ _ _ _ _); (refine stop_here ?_)) | with_reducible ((with_reducible show wpAny _ _ (pyIter (Value.ref _)) (fun it s₂ => TurnsAt _ _ _ _ _ _ _ _ _ it s₂) _ _); refine stop_here ?_) | with_reducible ((with_reducible show wpAny _ _ (exec (Stmt.For (Expr.Tuple _ _ _) (Expr.Name _ _) (List.cons _ _) [] _) _) _ _ _); (k_here; (rename Fr _ _ _ _ => lF'); (with_unfolding_all refine' For_turns lF' ?_; k_whole))) | with_reducible ((with_reducible show ite _ _ _); first | (refine ite_pos (by ((try simp only [decide_eq_true_eq, beq_iff_eq, bne_iff_ne, ne_eq, Bool.not_eq_true']); omega)) ?_; walk_say "m ite +") | (refine ite_neg (by ((try simp only [decide_eq_true_eq, beq_iff_eq, bne_iff_ne, ne_eq, Bool.not_eq_true']); omega)) ?_; walk_say "m ite -")) | with_reducible ((with_reducible show InvEndN _ _ _ _ _ _ _); refine stop_here ?_)) | walk1 | (dsimp only; walk1) | (leave1; walk_say "STEP leave1"; try dsimp only) | fail "no step"))
      refine Stop.of ?_
      exact ⟨_, _, _, _, rfl, F9, N9, fun p hp q hq => by rw [List.mem_singleton.mp hq]; exact Nat.ne_of_lt (lI p hp), And.intro (List.Mem.head _) trivial, IH9.out _ _ ⟨⟨hb9.1, hb9.2.1, hb9.2.2.1, trivial⟩, rfl⟩⟩
  · rintro m9 n9 ⟨hb9, rfl⟩
    refine ItemsRest.zero ?_
    intro h tk F9 N9
    clear nF nN
    (repeat' (first | (k_unfold; (try dsimp only)) | (first | with_reducible ((with_reducible show wpAny _ _ (call (Value.ref 203) _ _) _ _ _); refine stop_here ?_) | with_reducible ((with_reducible show UnrPostW _ _ _ _ _ _ _ _); (refine stop_here ?_)) | with_reducible ((with_reducible show wpAny _ _ (pyIter (Value.ref _)) (fun it s₂ => TurnsAt _ _ _ _ _ _ _ _ _ it s₂) _ _); refine stop_here ?_) | with_reducible ((with_reducible show wpAny _ _ (exec (Stmt.For (Expr.Tuple _ _ _) (Expr.Name _ _) (List.cons _ _) [] _) _) _ _ _); (k_here; (rename Fr _ _ _ _ => lF'); (with_unfolding_all refine' For_turns lF' ?_; k_whole))) | with_reducible ((with_reducible show ite _ _ _); first | (refine ite_pos (by ((try simp only [decide_eq_true_eq, beq_iff_eq, bne_iff_ne, ne_eq, Bool.not_eq_true']); omega)) ?_; walk_say "m ite +") | (refine ite_neg (by ((try simp only [decide_eq_true_eq, beq_iff_eq, bne_iff_ne, ne_eq, Bool.not_eq_true']); omega)) ?_; walk_say "m ite -")) | with_reducible ((with_reducible show InvEndN _ _ _ _ _ _ _); refine stop_here ?_)) | walk1 | (dsimp only; walk1) | (leave1; walk_say "STEP leave1"; try dsimp only) | fail "no step"))
    exact hQ.out _ _ _ _ _ F9 N9 (by repeat (first | exact m7 | apply List.mem_cons_of_mem))
end
section
theorem pieces_figs {ms : List Int} : ∀ {i : Nat} {ys : List Value}, Pieces (fun i vs' => ∃ c, ms[i]? = some c ∧ IntsAre vs' (figsM c)) i ys → IntsAre ys (figsAll (ms.take i))
  | _, _, .zero => by simpa [figsAll] using IntsAre.nil
  | _, _, .succ (i := i) p ⟨c, hc, hv⟩ => by
    have h1 := (pieces_figs p).append hv
    have e : ms.take (i + 1) = ms.take i ++ [c] := by rw [List.take_add_one, hc]; rfl
    rw [e]
    simpa [figsAll] using h1
theorem strs_modes {ms : List Int} : ∀ {vs ys : List Value}, Paired (fun v y => ∃ c t u, v = .int c t ∧ y = .str (modeS c) u) vs ys → IntsAre vs ms → StrsAre ys (ms.map modeS) := by
  induction ms with
  | nil => intro vs ys h hI; cases hI; cases h; exact .nil
  | cons c r ih =>
    intro vs ys h hI
    obtain ⟨t, vs', rfl, hI'⟩ := hI.cons_inv
    cases h with
    | cons h1 h2 =>
      obtain ⟨c', t', u, e1, rfl⟩ := h1
      cases e1
      exact .cons _ _ (ih h2 hI')
theorem law_b_use {w : World} {loose : List Str} {mean : ExcName → Option Value} {mg mb : Str → Option Value} {h₀ : Heap} {s : Shared} {Q : Flow → Shared → Prop} {E : Value → Shared → Prop} {L f lw lp f' c' : Addr} {fs : List Int} {m : Str → Option Value} {oO oF oC : Obj} {n1 n2 : Nat} {t0 t1 t2 t3 : Tok} {nx : List (Addr × Obj)}
    {name qual : Str} {params : Arguments} {body : List Stmt} {scope : Scope} {dV kV doc pm cdv ct oc : Value} {an od : Option Addr} {osl : Array (Option Value)}
    (ho : (hd.heap_1 w.params).lookup 208 = some ⟨oc, od, .func (fnOf name qual params body scope dV kV doc pm an cdv ct), osl⟩)
    (B : Below callerA h₀ [] h₀) (X : (hd.heap_1 w.params).In h₀) (T : Top topProg loose mean mg mb h₀) (C : CodeHd h₀ 207 205)
    (hb : Binds m [(Str.ofString "writers", .ref lw), (Str.ofString "pages", .ref lp)])
    (F : Fr h₀ L s.heap m) (N : News h₀ L s.heap nx)
    (w1 : (lw, W.listOf #[.ref f', .ref 170, .ref 156] n1) ∈ nx) (w2 : (lp, W.listOf #[.str (listS (fullF fs)) t1, .str (mapS (sub1 63 95) (listS (fullF fs))) t2, .str (mapS (sub1 63 47) (mapS (sub1 45 43) (listS (fullF fs)))) t3] n2) ∈ nx)
    (w3 : (L + 1, oO) ∈ nx) (w4 : (f', oF) ∈ nx) (w5 : (c', oC) ∈ nx)
    (hoO : oO.data = .cell (some (.bytes (byteArr (octsM (fullF fs))) t0))) (hf' : @LT.lt Nat instLTNat 205 f')
    (hfin : Hid (∀ f ∈ fullF fs, 0 ≤ f ∧ f < 64)) (hfl2 : (listS (fullF fs)).length ≤ 62) (hW4 : (fullF fs).length % 4 = 0) (hW : Hid (Whole3 (byteArr (octsM (fullF fs)))))
    (dW : ∀ t, Deed w loose mean mg mb [(f', oF), (c', oC)] f' (.bytes (byteArr (octsM (fullF fs))) t) (.ok (trans (mkTrans #[43, 47] #[45, 63]) (enc (byteArr (octsM (fullF fs)))))))
    (next : ∀ h' tk', Fr h₀ L h' m → News h₀ L h' nx → wpAny (model Challenge.rw_qh0096_01.row.prog w) (callerA.deeper (envOfC qual scope L f cdv)) (execs (body.drop 10) (envOfC qual scope L f cdv)) Q E { s with heap := h', toks := tk' }) :
    wpAny (model Challenge.rw_qh0096_01.row.prog w) (callerA.deeper (envOfC qual scope L f cdv)) (execs (body.drop 9) (envOfC qual scope L f cdv)) Q E s :=
  law_b (bs := #[]) (news := nx) ho B X T C hb F (newsCons (newsCons (newsCons (newsCons (newsCons N (N _ w5)) (N _ w4)) (N _ w3)) (N _ w2)) (N _ w1)) hoO hf' hfin hfl2 hW4 hW dW
    ⟨fun h' tk' F' N' => next h' tk' F' fun p hp => N' p (.tail _ (.tail _ (.tail _ (.tail _ (.tail _ hp)))))⟩
theorem law_tail {w : World} {loose : List Str} {mean : ExcName → Option Value} {mg mb : Str → Option Value} {h₀ : Heap} {s : Shared} {Q : Flow → Shared → Prop} {E : Value → Shared → Prop} {L am f : Addr} {vs : List Value} {ms : List Int} {nn : Nat} {n0 : Int} {tn : Tok} {m' : Str → Option Value} {wT wO : Obj}
    {name qual : Str} {params : Arguments} {body : List Stmt} {scope : Scope} {dV kV doc pm cdv ct oc : Value} {an od : Option Addr} {osl : Array (Option Value)}
    (ho : (hd.heap_1 w.params).lookup 208 = some ⟨oc, od, .func (fnOf name qual params body scope dV kV doc pm an cdv ct), osl⟩)
    (B : Below callerA h₀ [] h₀) (X : (hd.heap_1 w.params).In h₀) (T : Top topProg loose mean mg mb h₀) (C : CodeHd h₀ 207 205)
    (F : Fr h₀ L s.heap (fun y => if y = Str.ofString "modes" then some (.ref am) else if y = Str.ofString "n" then some (.int n0 tn) else m' y))
    (N : News h₀ L s.heap [(am, W.listOf vs.toArray nn), (L + 1 + 1, wT), (L + 1, wO), (205, tabObj #[])])
    (hwT : wT.data = .cell none) (hwO : wO.data = .cell none) (l1 : @Ne Nat am (L + 1 + 1) ∧ @Ne Nat am (L + 1) ∧ @Ne Nat am 205) (l0 : @LT.lt Nat instLTNat 205 L)
    (hI : IntsAre vs ms) (hlen : 0 < ms.length ∧ ms.length ≤ 6) (hms : ∀ x ∈ ms, 0 ≤ x ∧ x < 4294967296)
    (hE : PassesOwn (model Challenge.rw_qh0096_01.row.prog w) (callerA.deeper (envOfC qual scope L f cdv)) (envOfC qual scope L f cdv) E)
    (hQ : Hid (∀ h' tk' m'' news' ps, Fr h₀ L h' m'' → News h₀ L h' news' → (205, tabObj ps) ∈ news' → Q (.ret (.bool true)) { s with heap := h', toks := tk' })) :
    wpAny (model Challenge.rw_qh0096_01.row.prog w) (callerA.deeper (envOfC qual scope L f cdv)) (execs (body.drop 2) (envOfC qual scope L f cdv)) Q E s := by
  revert X; k_fill; intro X
  have hc := Option.some.inj (ho.symm.trans (show _ = some _ from by k_is))
  dsimp only [fnOf] at hc
  cases hc
  have ho2 := Hid.mk ho
  clear ho
  dsimp only [List.drop]
  try k_fold
  (repeat' (first | (k_unfold; (try dsimp only)) | (first | with_reducible ((with_reducible show wpAny _ _ (execs (Stmt.If _ _ _ _ :: _) _) _ _ _); refine stop_here ?_) | with_reducible ((with_reducible show wpAny _ _ (call (Value.builtin "str.encode") _ _) _ _ _); (refine encode_call (by first | exact list_chars (Hid.out (by assumption)) | exact mapS_chars (sub1_lt (by decide)) (list_chars (Hid.out (by assumption))) | exact mapS_chars (sub1_lt (by decide)) (mapS_chars (sub1_lt (by decide)) (list_chars (Hid.out (by assumption))))) (by first | exact Nat.le_trans (by assumption) (by decide) | (refine Nat.le_trans (Nat.le_of_eq (mapS_len _ _)) ?_; first | exact Nat.le_trans (by assumption) (by decide) | (refine Nat.le_trans (Nat.le_of_eq (mapS_len _ _)) ?_; exact Nat.le_trans (by assumption) (by decide)))) ?_; intro t9 k9; (try dsimp only))) | ((with_reducible show wpAny _ _ (call (Value.builtin "str.encode") _ _) _ _ _); (refine encode_call (by first | exact list_chars (Hid.out (by assumption)) | exact mapS_chars (sub1_lt (by decide)) (list_chars (Hid.out (by assumption))) | exact mapS_chars (sub1_lt (by decide)) (mapS_chars (sub1_lt (by decide)) (list_chars (Hid.out (by assumption))))) (by first | exact Nat.le_trans (by assumption) (by decide) | (refine Nat.le_trans (Nat.le_of_eq (mapS_len _ _)) ?_; first | exact Nat.le_trans (by assumption) (by decide) | (refine Nat.le_trans (Nat.le_of_eq (mapS_len _ _)) ?_; exact Nat.le_trans (by assumption) (by decide)))) ?_; intro t9 k9; (try dsimp only))) | with_reducible ((with_reducible show wpAny _ _ (getMethod (Value.str _ _) _ _) _ _ _); (k_here; with_reducible refine getm_encode ?_)) | with_reducible ((with_reducible show wpAny _ _ (call (Value.builtin "str.replace") _ _) _ _ _); (refine replaceT1 (by (refine neN ?_; omega)) (by (refine neN ?_; omega)) (by (refine neN ?_; omega)) (by decide +kernel) (by first | omega | (rw [mapS_len]; omega)) (by decide +kernel) ?_; intro t9 k9 hk9; (try dsimp only at hk9); first | rw [rep_us] | rw [rep_pl] | rw [rep_sl])) | with_reducible ((with_reducible show wpAny _ _ (binaryOp Operator.Add (Value.str _ _) (Value.str _ _)) _ _ _); refine stop_here ?_) | with_reducible ((with_reducible show wpAny _ _ (call (Value.ref _) _ _) _ _ _); first | ((with_reducible show wpAny _ _ (call (Value.ref 198) _ _) _ _ _); refine stop_here ?_) | ((with_reducible show wpAny _ _ (call (Value.ref 184) _ _) _ _ _); refine stop_here ?_) | ((with_reducible show wpAny _ _ (call (Value.ref 68) _ _) _ _ _); refine stop_here ?_)) | with_reducible ((with_reducible show wpAny _ _ (call (Value.ref _) _ _) _ _ _); (k_here; ( ((with_reducible show wpAny _ _ (call (Value.ref 191) _ _) _ _ _); k_dflt (refine' octets_use (by k_asm) (by k_asm) (by k_asm) (by k_asm) (by k_asm) (by exact rfl) (by exact rfl) (by exact rfl) (by exact rfl) (by exact Nat.le_of_ble_eq_true rfl) (by exact Nat.le_of_ble_eq_true rfl) (by exact News.isList (by k_asm) (by k_mem)) (by assumption) (by exact fullF_len (by assumption) (by omega)) (by assumption) ?_; k_whole; intro t9 h9 tk9 F9 N9; (try dsimp only); (try k_sweep)))))) | with_reducible (k_here; (with_reducible show wpAny _ _ (call (Value.builtin _) [Value.str _ _, Value.ref _]) _ _ _); k_dflt (refine join_listW (by is_list) (by assumption) (by decide +kernel) (modes_weight (by omega)) ?_); intro t9 k9; rw [join_modes]; (rename figsAll _ = _ => hfs9); rw [hfs9]) | with_reducible ((with_reducible show CompPack _); refine stop_here ?_) | with_reducible ((with_reducible show wpAny _ _ (eval (Expr.ListComp _ _ _ _) _) _ _ _); refine stop_here ?_) | with_reducible ((with_reducible show wpAny _ _ (exec (Stmt.Assign (List.cons _ _) (Expr.ListComp _ _ _ _) _) _) _ _ _); refine stop_here ?_) | with_reducible ((with_reducible show ite _ _ _); first | (refine ite_pos (by ((try simp only [decide_eq_true_eq, beq_iff_eq, bne_iff_ne, ne_eq, Bool.not_eq_true']); omega)) ?_; walk_say "m ite +") | (refine ite_neg (by ((try simp only [decide_eq_true_eq, beq_iff_eq, bne_iff_ne, ne_eq, Bool.not_eq_true']); omega)) ?_; walk_say "m ite -")) | with_reducible ((with_reducible show InvEndN _ _ _ _ _ _ _); refine stop_here ?_)) | walk1 | (dsimp only; walk1) | (leave1; walk_say "STEP leave1"; try dsimp only) | fail "no step"))
  refine Stop.of ?_
  have hLm : s.heap.IsList am vs.toArray := News.isList (by k_asm) (by k_mem)
  have hvl := hI.length
  refine' nest_assign (h₀ := h₀) (m := fun y => if y = Str.ofString "modes" then some (.ref am) else if y = Str.ofString "n" then some (.int n0 tn) else m' y) (G := fun i vs' => ∃ c, ms[i]? = some c ∧ IntsAre vs' (figsM c)) (by with_unfolding_all rfl) (by with_unfolding_all rfl) (by decide) (by with_unfolding_all rfl) (by decide) (by with_unfolding_all rfl) (by with_unfolding_all rfl) (by with_unfolding_all rfl) (by with_unfolding_all rfl) (by with_unfolding_all rfl) (by k_asm) (by k_asm) ?_ (by intro _; with_unfolding_all rfl) (by intro _ _; with_unfolding_all rfl) hLm (by omega) ?_ (by with_unfolding_all rfl) ?_ ?_
  · intro Q' hq
    (repeat' (first | (k_unfold; (try dsimp only)) | (first | with_reducible ((with_reducible show wpAny _ _ (execs (Stmt.If _ _ _ _ :: _) _) _ _ _); refine stop_here ?_) | with_reducible ((with_reducible show wpAny _ _ (call (Value.builtin "str.encode") _ _) _ _ _); (refine encode_call (by first | exact list_chars (Hid.out (by assumption)) | exact mapS_chars (sub1_lt (by decide)) (list_chars (Hid.out (by assumption))) | exact mapS_chars (sub1_lt (by decide)) (mapS_chars (sub1_lt (by decide)) (list_chars (Hid.out (by assumption))))) (by first | exact Nat.le_trans (by assumption) (by decide) | (refine Nat.le_trans (Nat.le_of_eq (mapS_len _ _)) ?_; first | exact Nat.le_trans (by assumption) (by decide) | (refine Nat.le_trans (Nat.le_of_eq (mapS_len _ _)) ?_; exact Nat.le_trans (by assumption) (by decide)))) ?_; intro t9 k9; (try dsimp only))) | ((with_reducible show wpAny _ _ (call (Value.builtin "str.encode") _ _) _ _ _); (refine encode_call (by first | exact list_chars (Hid.out (by assumption)) | exact mapS_chars (sub1_lt (by decide)) (list_chars (Hid.out (by assumption))) | exact mapS_chars (sub1_lt (by decide)) (mapS_chars (sub1_lt (by decide)) (list_chars (Hid.out (by assumption))))) (by first | exact Nat.le_trans (by assumption) (by decide) | (refine Nat.le_trans (Nat.le_of_eq (mapS_len _ _)) ?_; first | exact Nat.le_trans (by assumption) (by decide) | (refine Nat.le_trans (Nat.le_of_eq (mapS_len _ _)) ?_; exact Nat.le_trans (by assumption) (by decide)))) ?_; intro t9 k9; (try dsimp only))) | with_reducible ((with_reducible show wpAny _ _ (getMethod (Value.str _ _) _ _) _ _ _); (k_here; with_reducible refine getm_encode ?_)) | with_reducible ((with_reducible show wpAny _ _ (call (Value.builtin "str.replace") _ _) _ _ _); (refine replaceT1 (by (refine neN ?_; omega)) (by (refine neN ?_; omega)) (by (refine neN ?_; omega)) (by decide +kernel) (by first | omega | (rw [mapS_len]; omega)) (by decide +kernel) ?_; intro t9 k9 hk9; (try dsimp only at hk9); first | rw [rep_us] | rw [rep_pl] | rw [rep_sl])) | with_reducible ((with_reducible show wpAny _ _ (binaryOp Operator.Add (Value.str _ _) (Value.str _ _)) _ _ _); refine stop_here ?_) | with_reducible ((with_reducible show wpAny _ _ (call (Value.ref _) _ _) _ _ _); first | ((with_reducible show wpAny _ _ (call (Value.ref 198) _ _) _ _ _); refine stop_here ?_) | ((with_reducible show wpAny _ _ (call (Value.ref 184) _ _) _ _ _); refine stop_here ?_) | ((with_reducible show wpAny _ _ (call (Value.ref 68) _ _) _ _ _); refine stop_here ?_)) | with_reducible ((with_reducible show wpAny _ _ (call (Value.ref _) _ _) _ _ _); (k_here; ( ((with_reducible show wpAny _ _ (call (Value.ref 191) _ _) _ _ _); k_dflt (refine' octets_use (by k_asm) (by k_asm) (by k_asm) (by k_asm) (by k_asm) (by exact rfl) (by exact rfl) (by exact rfl) (by exact rfl) (by exact Nat.le_of_ble_eq_true rfl) (by exact Nat.le_of_ble_eq_true rfl) (by exact News.isList (by k_asm) (by k_mem)) (by assumption) (by exact fullF_len (by assumption) (by omega)) (by assumption) ?_; k_whole; intro t9 h9 tk9 F9 N9; (try dsimp only); (try k_sweep)))))) | with_reducible (k_here; (with_reducible show wpAny _ _ (call (Value.builtin _) [Value.str _ _, Value.ref _]) _ _ _); k_dflt (refine join_listW (by is_list) (by assumption) (by decide +kernel) (modes_weight (by omega)) ?_); intro t9 k9; rw [join_modes]; (rename figsAll _ = _ => hfs9); rw [hfs9]) | with_reducible ((with_reducible show CompPack _); refine stop_here ?_) | with_reducible ((with_reducible show wpAny _ _ (eval (Expr.ListComp _ _ _ _) _) _ _ _); refine stop_here ?_) | with_reducible ((with_reducible show wpAny _ _ (exec (Stmt.Assign (List.cons _ _) (Expr.ListComp _ _ _ _) _) _) _ _ _); refine stop_here ?_) | with_reducible ((with_reducible show ite _ _ _); first | (refine ite_pos (by ((try simp only [decide_eq_true_eq, beq_iff_eq, bne_iff_ne, ne_eq, Bool.not_eq_true']); omega)) ?_; walk_say "m ite +") | (refine ite_neg (by ((try simp only [decide_eq_true_eq, beq_iff_eq, bne_iff_ne, ne_eq, Bool.not_eq_true']); omega)) ?_; walk_say "m ite -")) | with_reducible ((with_reducible show InvEndN _ _ _ _ _ _ _); refine stop_here ?_)) | walk1 | (dsimp only; walk1) | (leave1; walk_say "STEP leave1"; try dsimp only) | fail "no step"))
    exact hq
  · rintro i vs' ⟨c, _, h⟩
    rw [h.length]; exact Nat.le_of_ble_eq_true rfl
  · intro C i v s₂ m₂ hC hi hn hm hk
    have cF' := frAfter F hk
    have cN' := newsAfter N hk
    have cE' := InElt.start s₂.heap
    obtain ⟨c, t, rfl, hc⟩ := hI.at i v hi
    have hcr := hms c (List.mem_of_getElem? hc)
    (repeat' (first | (k_unfold; (try dsimp only)) | (first | with_reducible ((with_reducible show wpAny _ _ (execs (Stmt.If _ _ _ _ :: _) _) _ _ _); refine stop_here ?_) | with_reducible ((with_reducible show wpAny _ _ (call (Value.builtin "str.encode") _ _) _ _ _); (refine encode_call (by first | exact list_chars (Hid.out (by assumption)) | exact mapS_chars (sub1_lt (by decide)) (list_chars (Hid.out (by assumption))) | exact mapS_chars (sub1_lt (by decide)) (mapS_chars (sub1_lt (by decide)) (list_chars (Hid.out (by assumption))))) (by first | exact Nat.le_trans (by assumption) (by decide) | (refine Nat.le_trans (Nat.le_of_eq (mapS_len _ _)) ?_; first | exact Nat.le_trans (by assumption) (by decide) | (refine Nat.le_trans (Nat.le_of_eq (mapS_len _ _)) ?_; exact Nat.le_trans (by assumption) (by decide)))) ?_; intro t9 k9; (try dsimp only))) | ((with_reducible show wpAny _ _ (call (Value.builtin "str.encode") _ _) _ _ _); (refine encode_call (by first | exact list_chars (Hid.out (by assumption)) | exact mapS_chars (sub1_lt (by decide)) (list_chars (Hid.out (by assumption))) | exact mapS_chars (sub1_lt (by decide)) (mapS_chars (sub1_lt (by decide)) (list_chars (Hid.out (by assumption))))) (by first | exact Nat.le_trans (by assumption) (by decide) | (refine Nat.le_trans (Nat.le_of_eq (mapS_len _ _)) ?_; first | exact Nat.le_trans (by assumption) (by decide) | (refine Nat.le_trans (Nat.le_of_eq (mapS_len _ _)) ?_; exact Nat.le_trans (by assumption) (by decide)))) ?_; intro t9 k9; (try dsimp only))) | with_reducible ((with_reducible show wpAny _ _ (getMethod (Value.str _ _) _ _) _ _ _); (k_here; with_reducible refine getm_encode ?_)) | with_reducible ((with_reducible show wpAny _ _ (call (Value.builtin "str.replace") _ _) _ _ _); (refine replaceT1 (by (refine neN ?_; omega)) (by (refine neN ?_; omega)) (by (refine neN ?_; omega)) (by decide +kernel) (by first | omega | (rw [mapS_len]; omega)) (by decide +kernel) ?_; intro t9 k9 hk9; (try dsimp only at hk9); first | rw [rep_us] | rw [rep_pl] | rw [rep_sl])) | with_reducible ((with_reducible show wpAny _ _ (binaryOp Operator.Add (Value.str _ _) (Value.str _ _)) _ _ _); refine stop_here ?_) | with_reducible ((with_reducible show wpAny _ _ (call (Value.ref _) _ _) _ _ _); first | ((with_reducible show wpAny _ _ (call (Value.ref 198) _ _) _ _ _); refine stop_here ?_) | ((with_reducible show wpAny _ _ (call (Value.ref 184) _ _) _ _ _); refine stop_here ?_) | ((with_reducible show wpAny _ _ (call (Value.ref 68) _ _) _ _ _); refine stop_here ?_)) | with_reducible ((with_reducible show wpAny _ _ (call (Value.ref _) _ _) _ _ _); (k_here; ( ((with_reducible show wpAny _ _ (call (Value.ref 191) _ _) _ _ _); k_dflt (refine' octets_use (by k_asm) (by k_asm) (by k_asm) (by k_asm) (by k_asm) (by exact rfl) (by exact rfl) (by exact rfl) (by exact rfl) (by exact Nat.le_of_ble_eq_true rfl) (by exact Nat.le_of_ble_eq_true rfl) (by exact News.isList (by k_asm) (by k_mem)) (by assumption) (by exact fullF_len (by assumption) (by omega)) (by assumption) ?_; k_whole; intro t9 h9 tk9 F9 N9; (try dsimp only); (try k_sweep)))))) | with_reducible (k_here; (with_reducible show wpAny _ _ (call (Value.builtin _) [Value.str _ _, Value.ref _]) _ _ _); k_dflt (refine join_listW (by is_list) (by assumption) (by decide +kernel) (modes_weight (by omega)) ?_); intro t9 k9; rw [join_modes]; (rename figsAll _ = _ => hfs9); rw [hfs9]) | with_reducible ((with_reducible show CompPack _); refine stop_here ?_) | with_reducible ((with_reducible show wpAny _ _ (eval (Expr.ListComp _ _ _ _) _) _ _ _); refine stop_here ?_) | with_reducible ((with_reducible show wpAny _ _ (exec (Stmt.Assign (List.cons _ _) (Expr.ListComp _ _ _ _) _) _) _ _ _); refine stop_here ?_) | with_reducible ((with_reducible show ite _ _ _); first | (refine ite_pos (by ((try simp only [decide_eq_true_eq, beq_iff_eq, bne_iff_ne, ne_eq, Bool.not_eq_true']); omega)) ?_; walk_say "m ite +") | (refine ite_neg (by ((try simp only [decide_eq_true_eq, beq_iff_eq, bne_iff_ne, ne_eq, Bool.not_eq_true']); omega)) ?_; walk_say "m ite -")) | with_reducible ((with_reducible show InvEndN _ _ _ _ _ _ _); refine stop_here ?_)) | walk1 | (dsimp only; walk1) | (leave1; walk_say "STEP leave1"; try dsimp only) | fail "no step"))
    refine Stop.of ?_
    refine wpAny_lower (figures_ok (Here.down B cF' X T rfl rfl rfl) hcr.1 hcr.2 ⟨fun a vs' n h' tk' k M hi' => ⟨a, vs', n, h', tk', rfl, rfl, k, M, _, hc, hi'⟩⟩) rfl rfl (Nat.le_of_ble_eq_true rfl) (Nat.le_of_ble_eq_true rfl)
  · intro D ys n h' tk hD F' N' P'
    have hIf : IntsAre ys (figsAll ms) := by
      have := pieces_figs P'
      rwa [hvl, List.take_length] at this
    have hfl := figs_len (ms := ms)
    have hyl := hIf.length
    have o1 : @LT.lt Nat instLTNat am D := hD _ (.head _)
    have o2 : @LT.lt Nat instLTNat (L + 1 + 1) D := hD _ (.tail _ (.head _))
    clear P' hD F N
    generalize hfs : figsAll ms = fs at *
    (repeat' (first | (k_unfold; (try dsimp only)) | (first | with_reducible ((with_reducible show wpAny _ _ (execs (Stmt.If _ _ _ _ :: _) _) _ _ _); refine stop_here ?_) | with_reducible ((with_reducible show wpAny _ _ (call (Value.builtin "str.encode") _ _) _ _ _); (refine encode_call (by first | exact list_chars (Hid.out (by assumption)) | exact mapS_chars (sub1_lt (by decide)) (list_chars (Hid.out (by assumption))) | exact mapS_chars (sub1_lt (by decide)) (mapS_chars (sub1_lt (by decide)) (list_chars (Hid.out (by assumption))))) (by first | exact Nat.le_trans (by assumption) (by decide) | (refine Nat.le_trans (Nat.le_of_eq (mapS_len _ _)) ?_; first | exact Nat.le_trans (by assumption) (by decide) | (refine Nat.le_trans (Nat.le_of_eq (mapS_len _ _)) ?_; exact Nat.le_trans (by assumption) (by decide)))) ?_; intro t9 k9; (try dsimp only))) | ((with_reducible show wpAny _ _ (call (Value.builtin "str.encode") _ _) _ _ _); (refine encode_call (by first | exact list_chars (Hid.out (by assumption)) | exact mapS_chars (sub1_lt (by decide)) (list_chars (Hid.out (by assumption))) | exact mapS_chars (sub1_lt (by decide)) (mapS_chars (sub1_lt (by decide)) (list_chars (Hid.out (by assumption))))) (by first | exact Nat.le_trans (by assumption) (by decide) | (refine Nat.le_trans (Nat.le_of_eq (mapS_len _ _)) ?_; first | exact Nat.le_trans (by assumption) (by decide) | (refine Nat.le_trans (Nat.le_of_eq (mapS_len _ _)) ?_; exact Nat.le_trans (by assumption) (by decide)))) ?_; intro t9 k9; (try dsimp only))) | with_reducible ((with_reducible show wpAny _ _ (getMethod (Value.str _ _) _ _) _ _ _); (k_here; with_reducible refine getm_encode ?_)) | with_reducible ((with_reducible show wpAny _ _ (call (Value.builtin "str.replace") _ _) _ _ _); (refine replaceT1 (by (refine neN ?_; omega)) (by (refine neN ?_; omega)) (by (refine neN ?_; omega)) (by decide +kernel) (by first | omega | (rw [mapS_len]; omega)) (by decide +kernel) ?_; intro t9 k9 hk9; (try dsimp only at hk9); first | rw [rep_us] | rw [rep_pl] | rw [rep_sl])) | with_reducible ((with_reducible show wpAny _ _ (binaryOp Operator.Add (Value.str _ _) (Value.str _ _)) _ _ _); refine stop_here ?_) | with_reducible ((with_reducible show wpAny _ _ (call (Value.ref _) _ _) _ _ _); first | ((with_reducible show wpAny _ _ (call (Value.ref 198) _ _) _ _ _); refine stop_here ?_) | ((with_reducible show wpAny _ _ (call (Value.ref 184) _ _) _ _ _); refine stop_here ?_) | ((with_reducible show wpAny _ _ (call (Value.ref 68) _ _) _ _ _); refine stop_here ?_)) | with_reducible ((with_reducible show wpAny _ _ (call (Value.ref _) _ _) _ _ _); (k_here; ( ((with_reducible show wpAny _ _ (call (Value.ref 191) _ _) _ _ _); k_dflt (refine' octets_use (by k_asm) (by k_asm) (by k_asm) (by k_asm) (by k_asm) (by exact rfl) (by exact rfl) (by exact rfl) (by exact rfl) (by exact Nat.le_of_ble_eq_true rfl) (by exact Nat.le_of_ble_eq_true rfl) (by exact News.isList (by k_asm) (by k_mem)) (by assumption) (by exact fullF_len (by assumption) (by omega)) (by assumption) ?_; k_whole; intro t9 h9 tk9 F9 N9; (try dsimp only); (try k_sweep)))))) | with_reducible (k_here; (with_reducible show wpAny _ _ (call (Value.builtin _) [Value.str _ _, Value.ref _]) _ _ _); k_dflt (refine join_listW (by is_list) (by assumption) (by decide +kernel) (modes_weight (by omega)) ?_); intro t9 k9; rw [join_modes]; (rename figsAll _ = _ => hfs9); rw [hfs9]) | with_reducible ((with_reducible show CompPack _); refine stop_here ?_) | with_reducible ((with_reducible show wpAny _ _ (eval (Expr.ListComp _ _ _ _) _) _ _ _); refine stop_here ?_) | with_reducible ((with_reducible show wpAny _ _ (exec (Stmt.Assign (List.cons _ _) (Expr.ListComp _ _ _ _) _) _) _ _ _); refine stop_here ?_) | with_reducible ((with_reducible show ite _ _ _); first | (refine ite_pos (by ((try simp only [decide_eq_true_eq, beq_iff_eq, bne_iff_ne, ne_eq, Bool.not_eq_true']); omega)) ?_; walk_say "m ite +") | (refine ite_neg (by ((try simp only [decide_eq_true_eq, beq_iff_eq, bne_iff_ne, ne_eq, Bool.not_eq_true']); omega)) ?_; walk_say "m ite -")) | with_reducible ((with_reducible show InvEndN _ _ _ _ _ _ _); refine stop_here ?_)) | walk1 | (dsimp only; walk1) | (leave1; walk_say "STEP leave1"; try dsimp only) | fail "no step"))
    refine Stop.of ?_
    rename News _ _ _ _ => nN
    rename Fr _ _ _ _ => nF
    refine' comp_eval (h₀ := h₀) (L := L) (m := frMap nF) (fun v y => ∃ c t u, v = .int c t ∧ y = .str (modeS c) u) (by with_unfolding_all rfl) (by with_unfolding_all rfl) (by decide) (by with_unfolding_all rfl) (by decide) (by with_unfolding_all rfl) ?_ (by intro _; with_unfolding_all rfl)
    try dsimp only [frMap]
    refine wpAny_compPack ?_
    (repeat' (first | (k_unfold; (try dsimp only)) | (first | with_reducible ((with_reducible show wpAny _ _ (execs (Stmt.If _ _ _ _ :: _) _) _ _ _); refine stop_here ?_) | with_reducible ((with_reducible show wpAny _ _ (call (Value.builtin "str.encode") _ _) _ _ _); (refine encode_call (by first | exact list_chars (Hid.out (by assumption)) | exact mapS_chars (sub1_lt (by decide)) (list_chars (Hid.out (by assumption))) | exact mapS_chars (sub1_lt (by decide)) (mapS_chars (sub1_lt (by decide)) (list_chars (Hid.out (by assumption))))) (by first | exact Nat.le_trans (by assumption) (by decide) | (refine Nat.le_trans (Nat.le_of_eq (mapS_len _ _)) ?_; first | exact Nat.le_trans (by assumption) (by decide) | (refine Nat.le_trans (Nat.le_of_eq (mapS_len _ _)) ?_; exact Nat.le_trans (by assumption) (by decide)))) ?_; intro t9 k9; (try dsimp only))) | ((with_reducible show wpAny _ _ (call (Value.builtin "str.encode") _ _) _ _ _); (refine encode_call (by first | exact list_chars (Hid.out (by assumption)) | exact mapS_chars (sub1_lt (by decide)) (list_chars (Hid.out (by assumption))) | exact mapS_chars (sub1_lt (by decide)) (mapS_chars (sub1_lt (by decide)) (list_chars (Hid.out (by assumption))))) (by first | exact Nat.le_trans (by assumption) (by decide) | (refine Nat.le_trans (Nat.le_of_eq (mapS_len _ _)) ?_; first | exact Nat.le_trans (by assumption) (by decide) | (refine Nat.le_trans (Nat.le_of_eq (mapS_len _ _)) ?_; exact Nat.le_trans (by assumption) (by decide)))) ?_; intro t9 k9; (try dsimp only))) | with_reducible ((with_reducible show wpAny _ _ (getMethod (Value.str _ _) _ _) _ _ _); (k_here; with_reducible refine getm_encode ?_)) | with_reducible ((with_reducible show wpAny _ _ (call (Value.builtin "str.replace") _ _) _ _ _); (refine replaceT1 (by (refine neN ?_; omega)) (by (refine neN ?_; omega)) (by (refine neN ?_; omega)) (by decide +kernel) (by first | omega | (rw [mapS_len]; omega)) (by decide +kernel) ?_; intro t9 k9 hk9; (try dsimp only at hk9); first | rw [rep_us] | rw [rep_pl] | rw [rep_sl])) | with_reducible ((with_reducible show wpAny _ _ (binaryOp Operator.Add (Value.str _ _) (Value.str _ _)) _ _ _); refine stop_here ?_) | with_reducible ((with_reducible show wpAny _ _ (call (Value.ref _) _ _) _ _ _); first | ((with_reducible show wpAny _ _ (call (Value.ref 198) _ _) _ _ _); refine stop_here ?_) | ((with_reducible show wpAny _ _ (call (Value.ref 184) _ _) _ _ _); refine stop_here ?_) | ((with_reducible show wpAny _ _ (call (Value.ref 68) _ _) _ _ _); refine stop_here ?_)) | with_reducible ((with_reducible show wpAny _ _ (call (Value.ref _) _ _) _ _ _); (k_here; ( ((with_reducible show wpAny _ _ (call (Value.ref 191) _ _) _ _ _); k_dflt (refine' octets_use (by k_asm) (by k_asm) (by k_asm) (by k_asm) (by k_asm) (by exact rfl) (by exact rfl) (by exact rfl) (by exact rfl) (by exact Nat.le_of_ble_eq_true rfl) (by exact Nat.le_of_ble_eq_true rfl) (by exact News.isList (by k_asm) (by k_mem)) (by assumption) (by exact fullF_len (by assumption) (by omega)) (by assumption) ?_; k_whole; intro t9 h9 tk9 F9 N9; (try dsimp only); (try k_sweep)))))) | with_reducible (k_here; (with_reducible show wpAny _ _ (call (Value.builtin _) [Value.str _ _, Value.ref _]) _ _ _); k_dflt (refine join_listW (by is_list) (by assumption) (by decide +kernel) (modes_weight (by omega)) ?_); intro t9 k9; rw [join_modes]; (rename figsAll _ = _ => hfs9); rw [hfs9]) | with_reducible ((with_reducible show CompPack _); refine stop_here ?_) | with_reducible ((with_reducible show wpAny _ _ (eval (Expr.ListComp _ _ _ _) _) _ _ _); refine stop_here ?_) | with_reducible ((with_reducible show wpAny _ _ (exec (Stmt.Assign (List.cons _ _) (Expr.ListComp _ _ _ _) _) _) _ _ _); refine stop_here ?_) | with_reducible ((with_reducible show ite _ _ _); first | (refine ite_pos (by ((try simp only [decide_eq_true_eq, beq_iff_eq, bne_iff_ne, ne_eq, Bool.not_eq_true']); omega)) ?_; walk_say "m ite +") | (refine ite_neg (by ((try simp only [decide_eq_true_eq, beq_iff_eq, bne_iff_ne, ne_eq, Bool.not_eq_true']); omega)) ?_; walk_say "m ite -")) | with_reducible ((with_reducible show InvEndN _ _ _ _ _ _ _); refine stop_here ?_)) | walk1 | (dsimp only; walk1) | (leave1; walk_say "STEP leave1"; try dsimp only) | fail "no step"))
    refine Stop.of (CompPack.intro ?_)
    refine' ⟨_, am, vs, rfl, News.isList (by k_asm) (by k_mem), ?_, nF, nN, ?_, ?_⟩
    · rw [sizeLine_eq]; omega
    · intro C' v s₂ m₂ E' hmem hn hm cF' cN'
      have cE' := InElt.start s₂.heap
      obtain ⟨i, hi⟩ := List.getElem?_of_mem hmem
      obtain ⟨c, t, rfl, hc⟩ := hI.at i v hi
      have hcr := hms c (List.mem_of_getElem? hc)
      (repeat' (first | (k_unfold; (try dsimp only)) | (first | with_reducible ((with_reducible show wpAny _ _ (execs (Stmt.If _ _ _ _ :: _) _) _ _ _); refine stop_here ?_) | with_reducible ((with_reducible show wpAny _ _ (call (Value.builtin "str.encode") _ _) _ _ _); (refine encode_call (by first | exact list_chars (Hid.out (by assumption)) | exact mapS_chars (sub1_lt (by decide)) (list_chars (Hid.out (by assumption))) | exact mapS_chars (sub1_lt (by decide)) (mapS_chars (sub1_lt (by decide)) (list_chars (Hid.out (by assumption))))) (by first | exact Nat.le_trans (by assumption) (by decide) | (refine Nat.le_trans (Nat.le_of_eq (mapS_len _ _)) ?_; first | exact Nat.le_trans (by assumption) (by decide) | (refine Nat.le_trans (Nat.le_of_eq (mapS_len _ _)) ?_; exact Nat.le_trans (by assumption) (by decide)))) ?_; intro t9 k9; (try dsimp only))) | ((with_reducible show wpAny _ _ (call (Value.builtin "str.encode") _ _) _ _ _); (refine encode_call (by first | exact list_chars (Hid.out (by assumption)) | exact mapS_chars (sub1_lt (by decide)) (list_chars (Hid.out (by assumption))) | exact mapS_chars (sub1_lt (by decide)) (mapS_chars (sub1_lt (by decide)) (list_chars (Hid.out (by assumption))))) (by first | exact Nat.le_trans (by assumption) (by decide) | (refine Nat.le_trans (Nat.le_of_eq (mapS_len _ _)) ?_; first | exact Nat.le_trans (by assumption) (by decide) | (refine Nat.le_trans (Nat.le_of_eq (mapS_len _ _)) ?_; exact Nat.le_trans (by assumption) (by decide)))) ?_; intro t9 k9; (try dsimp only))) | with_reducible ((with_reducible show wpAny _ _ (getMethod (Value.str _ _) _ _) _ _ _); (k_here; with_reducible refine getm_encode ?_)) | with_reducible ((with_reducible show wpAny _ _ (call (Value.builtin "str.replace") _ _) _ _ _); (refine replaceT1 (by (refine neN ?_; omega)) (by (refine neN ?_; omega)) (by (refine neN ?_; omega)) (by decide +kernel) (by first | omega | (rw [mapS_len]; omega)) (by decide +kernel) ?_; intro t9 k9 hk9; (try dsimp only at hk9); first | rw [rep_us] | rw [rep_pl] | rw [rep_sl])) | with_reducible ((with_reducible show wpAny _ _ (binaryOp Operator.Add (Value.str _ _) (Value.str _ _)) _ _ _); refine stop_here ?_) | with_reducible ((with_reducible show wpAny _ _ (call (Value.ref _) _ _) _ _ _); first | ((with_reducible show wpAny _ _ (call (Value.ref 198) _ _) _ _ _); refine stop_here ?_) | ((with_reducible show wpAny _ _ (call (Value.ref 184) _ _) _ _ _); refine stop_here ?_) | ((with_reducible show wpAny _ _ (call (Value.ref 68) _ _) _ _ _); refine stop_here ?_)) | with_reducible ((with_reducible show wpAny _ _ (call (Value.ref _) _ _) _ _ _); (k_here; ( ((with_reducible show wpAny _ _ (call (Value.ref 191) _ _) _ _ _); k_dflt (refine' octets_use (by k_asm) (by k_asm) (by k_asm) (by k_asm) (by k_asm) (by exact rfl) (by exact rfl) (by exact rfl) (by exact rfl) (by exact Nat.le_of_ble_eq_true rfl) (by exact Nat.le_of_ble_eq_true rfl) (by exact News.isList (by k_asm) (by k_mem)) (by assumption) (by exact fullF_len (by assumption) (by omega)) (by assumption) ?_; k_whole; intro t9 h9 tk9 F9 N9; (try dsimp only); (try k_sweep)))))) | with_reducible (k_here; (with_reducible show wpAny _ _ (call (Value.builtin _) [Value.str _ _, Value.ref _]) _ _ _); k_dflt (refine join_listW (by is_list) (by assumption) (by decide +kernel) (modes_weight (by omega)) ?_); intro t9 k9; rw [join_modes]; (rename figsAll _ = _ => hfs9); rw [hfs9]) | with_reducible ((with_reducible show CompPack _); refine stop_here ?_) | with_reducible ((with_reducible show wpAny _ _ (eval (Expr.ListComp _ _ _ _) _) _ _ _); refine stop_here ?_) | with_reducible ((with_reducible show wpAny _ _ (exec (Stmt.Assign (List.cons _ _) (Expr.ListComp _ _ _ _) _) _) _ _ _); refine stop_here ?_) | with_reducible ((with_reducible show ite _ _ _); first | (refine ite_pos (by ((try simp only [decide_eq_true_eq, beq_iff_eq, bne_iff_ne, ne_eq, Bool.not_eq_true']); omega)) ?_; walk_say "m ite +") | (refine ite_neg (by ((try simp only [decide_eq_true_eq, beq_iff_eq, bne_iff_ne, ne_eq, Bool.not_eq_true']); omega)) ?_; walk_say "m ite -")) | with_reducible ((with_reducible show InvEndN _ _ _ _ _ _ _); refine stop_here ?_)) | walk1 | (dsimp only; walk1) | (leave1; walk_say "STEP leave1"; try dsimp only) | fail "no step"))
      refine Stop.of ?_
      refine wpAny_lower (filemode_ok (Here.down B cF' X T rfl rfl rfl) hcr.1 hcr.2 ⟨fun h' tk' t' k => ⟨⟨c, _, _, rfl, rfl⟩, h', tk', rfl, k⟩⟩) rfl rfl (Nat.le_of_ble_eq_true rfl) (Nat.le_of_ble_eq_true rfl)
    · intro D2 ys2 n2 h2 tk2 F2 N2 hne2 hp2
      have hS2 := strs_modes hp2 hI
      have hll := listS_len fs
      have hr4 : fs.length % 4 = 0 ∨ fs.length % 4 = 2 := by omega
      have hfl2 : (listS (fullF fs)).length ≤ 62 := by rw [listS_len]; exact fullF_len hfl (by omega)
      have hll2 : (listS fs).length ≤ 60 := by omega
      have hin9 : Hid (∀ f ∈ fs, 0 ≤ f ∧ f < 64) := ⟨hfs ▸ figs_in ms⟩
      have hfin : Hid (∀ f ∈ fullF fs, 0 ≤ f ∧ f < 64) := ⟨fullF_in (hfs ▸ figs_in ms)⟩
      simp only [List.forall_mem_cons, List.not_mem_nil, false_implies, implies_true, and_true] at hne2
      replace hne2 : @Ne Nat D D2 ∧ @Ne Nat am D2 ∧ @Ne Nat (L + 1 + 1) D2 ∧ @Ne Nat (L + 1) D2 ∧ @Ne Nat 205 D2 := hne2
      clear nF nN hp2
      (repeat' (first | (k_unfold; (try dsimp only)) | (first | with_reducible ((with_reducible show wpAny _ _ (execs (Stmt.If _ _ _ _ :: _) _) _ _ _); refine stop_here ?_) | with_reducible ((with_reducible show wpAny _ _ (call (Value.builtin "str.encode") _ _) _ _ _); (refine encode_call (by first | exact list_chars (Hid.out (by assumption)) | exact mapS_chars (sub1_lt (by decide)) (list_chars (Hid.out (by assumption))) | exact mapS_chars (sub1_lt (by decide)) (mapS_chars (sub1_lt (by decide)) (list_chars (Hid.out (by assumption))))) (by first | exact Nat.le_trans (by assumption) (by decide) | (refine Nat.le_trans (Nat.le_of_eq (mapS_len _ _)) ?_; first | exact Nat.le_trans (by assumption) (by decide) | (refine Nat.le_trans (Nat.le_of_eq (mapS_len _ _)) ?_; exact Nat.le_trans (by assumption) (by decide)))) ?_; intro t9 k9; (try dsimp only))) | ((with_reducible show wpAny _ _ (call (Value.builtin "str.encode") _ _) _ _ _); (refine encode_call (by first | exact list_chars (Hid.out (by assumption)) | exact mapS_chars (sub1_lt (by decide)) (list_chars (Hid.out (by assumption))) | exact mapS_chars (sub1_lt (by decide)) (mapS_chars (sub1_lt (by decide)) (list_chars (Hid.out (by assumption))))) (by first | exact Nat.le_trans (by assumption) (by decide) | (refine Nat.le_trans (Nat.le_of_eq (mapS_len _ _)) ?_; first | exact Nat.le_trans (by assumption) (by decide) | (refine Nat.le_trans (Nat.le_of_eq (mapS_len _ _)) ?_; exact Nat.le_trans (by assumption) (by decide)))) ?_; intro t9 k9; (try dsimp only))) | with_reducible ((with_reducible show wpAny _ _ (getMethod (Value.str _ _) _ _) _ _ _); (k_here; with_reducible refine getm_encode ?_)) | with_reducible ((with_reducible show wpAny _ _ (call (Value.builtin "str.replace") _ _) _ _ _); (refine replaceT1 (by (refine neN ?_; omega)) (by (refine neN ?_; omega)) (by (refine neN ?_; omega)) (by decide +kernel) (by first | omega | (rw [mapS_len]; omega)) (by decide +kernel) ?_; intro t9 k9 hk9; (try dsimp only at hk9); first | rw [rep_us] | rw [rep_pl] | rw [rep_sl])) | with_reducible ((with_reducible show wpAny _ _ (binaryOp Operator.Add (Value.str _ _) (Value.str _ _)) _ _ _); refine stop_here ?_) | with_reducible ((with_reducible show wpAny _ _ (call (Value.ref _) _ _) _ _ _); first | ((with_reducible show wpAny _ _ (call (Value.ref 198) _ _) _ _ _); refine stop_here ?_) | ((with_reducible show wpAny _ _ (call (Value.ref 184) _ _) _ _ _); refine stop_here ?_) | ((with_reducible show wpAny _ _ (call (Value.ref 68) _ _) _ _ _); refine stop_here ?_)) | with_reducible ((with_reducible show wpAny _ _ (call (Value.ref _) _ _) _ _ _); (k_here; ( ((with_reducible show wpAny _ _ (call (Value.ref 191) _ _) _ _ _); k_dflt (refine' octets_use (by k_asm) (by k_asm) (by k_asm) (by k_asm) (by k_asm) (by exact rfl) (by exact rfl) (by exact rfl) (by exact rfl) (by exact Nat.le_of_ble_eq_true rfl) (by exact Nat.le_of_ble_eq_true rfl) (by exact News.isList (by k_asm) (by k_mem)) (by assumption) (by exact fullF_len (by assumption) (by omega)) (by assumption) ?_; k_whole; intro t9 h9 tk9 F9 N9; (try dsimp only); (try k_sweep)))))) | with_reducible (k_here; (with_reducible show wpAny _ _ (call (Value.builtin _) [Value.str _ _, Value.ref _]) _ _ _); k_dflt (refine join_listW (by is_list) (by assumption) (by decide +kernel) (modes_weight (by omega)) ?_); intro t9 k9; rw [join_modes]; (rename figsAll _ = _ => hfs9); rw [hfs9]) | with_reducible ((with_reducible show CompPack _); refine stop_here ?_) | with_reducible ((with_reducible show wpAny _ _ (eval (Expr.ListComp _ _ _ _) _) _ _ _); refine stop_here ?_) | with_reducible ((with_reducible show wpAny _ _ (exec (Stmt.Assign (List.cons _ _) (Expr.ListComp _ _ _ _) _) _) _ _ _); refine stop_here ?_) | with_reducible ((with_reducible show ite _ _ _); first | (refine ite_pos (by ((try simp only [decide_eq_true_eq, beq_iff_eq, bne_iff_ne, ne_eq, Bool.not_eq_true']); omega)) ?_; walk_say "m ite +") | (refine ite_neg (by ((try simp only [decide_eq_true_eq, beq_iff_eq, bne_iff_ne, ne_eq, Bool.not_eq_true']); omega)) ?_; walk_say "m ite -")) | with_reducible ((with_reducible show InvEndN _ _ _ _ _ _ _); refine stop_here ?_)) | walk1 | (dsimp only; walk1) | (leave1; walk_say "STEP leave1"; try dsimp only) | fail "no step"))
      refine Stop.of ?_
      refine' KXadd.add (K := 60) (L := 100) hll2 ?kxab (by decide) ?_
      · have hm4 := Int.emod_lt_of_pos (fs.length : Int) (show (0 : Int) < 4 by decide)
        have hm5 := Int.emod_nonneg (fs.length : Int) (show (4 : Int) ≠ 0 by decide)
        have hm6 : (fs.length : Int).fmod 4 = (fs.length : Int) % 4 := Int.fmod_eq_emod_of_nonneg _ (by decide)
        omega
      intro t9 k9 _
      rw [page_eq hr4]
      (repeat' (first | (k_unfold; (try dsimp only)) | (first | with_reducible ((with_reducible show wpAny _ _ (execs (Stmt.If _ _ _ _ :: _) _) _ _ _); refine stop_here ?_) | with_reducible ((with_reducible show wpAny _ _ (call (Value.builtin "str.encode") _ _) _ _ _); (refine encode_call (by first | exact list_chars (Hid.out (by assumption)) | exact mapS_chars (sub1_lt (by decide)) (list_chars (Hid.out (by assumption))) | exact mapS_chars (sub1_lt (by decide)) (mapS_chars (sub1_lt (by decide)) (list_chars (Hid.out (by assumption))))) (by first | exact Nat.le_trans (by assumption) (by decide) | (refine Nat.le_trans (Nat.le_of_eq (mapS_len _ _)) ?_; first | exact Nat.le_trans (by assumption) (by decide) | (refine Nat.le_trans (Nat.le_of_eq (mapS_len _ _)) ?_; exact Nat.le_trans (by assumption) (by decide)))) ?_; intro t9 k9; (try dsimp only))) | ((with_reducible show wpAny _ _ (call (Value.builtin "str.encode") _ _) _ _ _); (refine encode_call (by first | exact list_chars (Hid.out (by assumption)) | exact mapS_chars (sub1_lt (by decide)) (list_chars (Hid.out (by assumption))) | exact mapS_chars (sub1_lt (by decide)) (mapS_chars (sub1_lt (by decide)) (list_chars (Hid.out (by assumption))))) (by first | exact Nat.le_trans (by assumption) (by decide) | (refine Nat.le_trans (Nat.le_of_eq (mapS_len _ _)) ?_; first | exact Nat.le_trans (by assumption) (by decide) | (refine Nat.le_trans (Nat.le_of_eq (mapS_len _ _)) ?_; exact Nat.le_trans (by assumption) (by decide)))) ?_; intro t9 k9; (try dsimp only))) | with_reducible ((with_reducible show wpAny _ _ (getMethod (Value.str _ _) _ _) _ _ _); (k_here; with_reducible refine getm_encode ?_)) | with_reducible ((with_reducible show wpAny _ _ (call (Value.builtin "str.replace") _ _) _ _ _); (refine replaceT1 (by (refine neN ?_; omega)) (by (refine neN ?_; omega)) (by (refine neN ?_; omega)) (by decide +kernel) (by first | omega | (rw [mapS_len]; omega)) (by decide +kernel) ?_; intro t9 k9 hk9; (try dsimp only at hk9); first | rw [rep_us] | rw [rep_pl] | rw [rep_sl])) | with_reducible ((with_reducible show wpAny _ _ (binaryOp Operator.Add (Value.str _ _) (Value.str _ _)) _ _ _); refine stop_here ?_) | with_reducible ((with_reducible show wpAny _ _ (call (Value.ref _) _ _) _ _ _); first | ((with_reducible show wpAny _ _ (call (Value.ref 198) _ _) _ _ _); refine stop_here ?_) | ((with_reducible show wpAny _ _ (call (Value.ref 184) _ _) _ _ _); refine stop_here ?_) | ((with_reducible show wpAny _ _ (call (Value.ref 68) _ _) _ _ _); refine stop_here ?_)) | with_reducible ((with_reducible show wpAny _ _ (call (Value.ref _) _ _) _ _ _); (k_here; ( ((with_reducible show wpAny _ _ (call (Value.ref 191) _ _) _ _ _); k_dflt (refine' octets_use (by k_asm) (by k_asm) (by k_asm) (by k_asm) (by k_asm) (by exact rfl) (by exact rfl) (by exact rfl) (by exact rfl) (by exact Nat.le_of_ble_eq_true rfl) (by exact Nat.le_of_ble_eq_true rfl) (by exact News.isList (by k_asm) (by k_mem)) (by assumption) (by exact fullF_len (by assumption) (by omega)) (by assumption) ?_; k_whole; intro t9 h9 tk9 F9 N9; (try dsimp only); (try k_sweep)))))) | with_reducible (k_here; (with_reducible show wpAny _ _ (call (Value.builtin _) [Value.str _ _, Value.ref _]) _ _ _); k_dflt (refine join_listW (by is_list) (by assumption) (by decide +kernel) (modes_weight (by omega)) ?_); intro t9 k9; rw [join_modes]; (rename figsAll _ = _ => hfs9); rw [hfs9]) | with_reducible ((with_reducible show CompPack _); refine stop_here ?_) | with_reducible ((with_reducible show wpAny _ _ (eval (Expr.ListComp _ _ _ _) _) _ _ _); refine stop_here ?_) | with_reducible ((with_reducible show wpAny _ _ (exec (Stmt.Assign (List.cons _ _) (Expr.ListComp _ _ _ _) _) _) _ _ _); refine stop_here ?_) | with_reducible ((with_reducible show ite _ _ _); first | (refine ite_pos (by ((try simp only [decide_eq_true_eq, beq_iff_eq, bne_iff_ne, ne_eq, Bool.not_eq_true']); omega)) ?_; walk_say "m ite +") | (refine ite_neg (by ((try simp only [decide_eq_true_eq, beq_iff_eq, bne_iff_ne, ne_eq, Bool.not_eq_true']); omega)) ?_; walk_say "m ite -")) | with_reducible ((with_reducible show InvEndN _ _ _ _ _ _ _); refine stop_here ?_)) | walk1 | (dsimp only; walk1) | (leave1; walk_say "STEP leave1"; try dsimp only) | fail "no step"))
      refine Stop.of ?_
      rename News _ _ _ _ => nN
      rename Fr _ _ _ _ => nF
      have hW4 := full_mod hr4
      have hW := Hid.mk (whole_octs hfin.out (by have := fullF_len hfl (by omega); omega) hW4)
      refine' law_b_use ho2.out B X T C ?b1 nF nN ?w1 ?w2 ?w3 ?w4 ?w5 ?o1 ?o2 hfin hfl2 hW4 hW ?dW ?nx
      case b1 => exact ⟨rfl, rfl, trivial⟩
      case w1 => k_mem
      case w2 => k_mem
      case w3 => k_mem
      case w4 => k_mem
      case dW => exact fun t => lam_enc ⟨⟨_, _, _, _, _, _, _, _, .head _, .tail _ (.head _), by assumption, by assumption⟩⟩ hW
      case w5 => k_mem
      case o1 => assumption
      case o2 => omega
      case nx =>
        intro h9 tk9 F9 N9
        clear nF nN
        refine' law_c (n1 := n) (nn := nn) (k6 := ms.length) (ys := ys) (vs := vs) (wT := wT) ho2.out B X T C ⟨rfl, rfl, rfl, rfl, rfl, trivial⟩ F9 (newsCons (newsCons (newsCons (newsCons (newsCons (fun _ h => nomatch h) (N9 (205, tabObj (#[] ++ #[rawInt 250, rawInt 0, .ref _])) ?y5)) (N9 (L + 1, _) ?y4)) (N9 (L + 1 + 1, wT) ?y3)) (N9 (am, _) ?y2)) (N9 (D, _) ?y1)) hwT l0 l1 ⟨by omega, by omega, by omega⟩ hIf hin9 hfl hlen hvl ?nx2
        case y1 => k_mem
        case y2 => k_mem
        case y3 => k_mem
        case y4 => k_mem
        case y5 => k_mem
        case nx2 =>
          refine ⟨?_⟩
          intro h8 tk8 m8 nw rl r1 r2 r3 r4 la1 sa1 sa2 sa3 la4 sa4 q1 q2 q3 q4 q5 q6 q7 q8 k p q ps F8 N8 b8 m0 m1 m2 m3 m4 m5 m6 m7 R1 R2 R3 R4
          exact law_d ho2.out B X T b8 F8 N8 m0 m1 m2 m3 m4 m5 m6 m7 R1 R2 R3 R4 hE hI hIf hin9 hfl hlen hvl ⟨fun h' tk' m'' news' ps F N hm => hQ.out h' tk' m'' news' ps F N hm⟩
end
section
set_option pp.deepTerms.threshold 4
theorem law_walk : PySem.Challenge.rw_qh0096_01.Holds := top (by
  k_go0
  all_goals (try k_fold)
  rename World => w9
  have ho2 := Hid.mk (show (hd.heap_1 w9.params).lookup 208 = some _ from by k_is)
  k_dflt ((repeat' (first | (k_unfold; (try dsimp only)) | (first | with_reducible ((with_reducible show wpAny _ _ (execs (Stmt.Assign [Expr.Name (Str.ofString "figures") _] _ _ :: _) _) _ _ _); refine stop_here ?_) | with_reducible ((with_reducible show ite _ _ _); first | (refine ite_pos (by ((try simp only [decide_eq_true_eq, beq_iff_eq, bne_iff_ne, ne_eq, Bool.not_eq_true']); omega)) ?_; walk_say "m ite +") | (refine ite_neg (by ((try simp only [decide_eq_true_eq, beq_iff_eq, bne_iff_ne, ne_eq, Bool.not_eq_true']); omega)) ?_; walk_say "m ite -")) | with_reducible ((with_reducible show InvEndN _ _ _ _ _ _ _); refine stop_here ?_)) | walk1 | (dsimp only; walk1) | (leave1; walk_say "STEP leave1"; try dsimp only) | fail "no step")))
  all_goals refine Stop.of ?_
  all_goals rename News _ _ _ _ => nN
  all_goals rename Fr _ _ _ _ => nF
  all_goals rename CodeHd _ _ _ => nC
  all_goals rename Below _ _ _ _ => nB
  all_goals rename Frag.In _ _ => nX
  all_goals rename Top _ _ _ _ _ _ => nT
  · refine' law_tail ho2.out nB nX nT nC nF (newsCons (newsCons (newsCons (newsCons (fun _ h => nomatch h) (nN (205, tabObj #[]) ?n1)) (nN (_ + 1, _) ?n2)) (nN (_ + 1 + 1, _) ?n3)) (nN (_, W.listOf _ _) ?n4)) ?wT ?wO ?l1 ?l0 ?I ?len ?ms ?E ?Q
    case n1 => k_mem
    case n2 => k_mem
    case n3 => k_mem
    case n4 => k_mem
    case wT => exact Eq.trans (by assumption) rfl
    case wO => exact Eq.trans (by assumption) rfl
    case l1 => exact ⟨by omega, by omega, by omega⟩
    case l0 => omega
    case I => assumption
    case len => exact ⟨by assumption, by rw [List.length_map, List.length_take]; omega⟩
    case ms =>
      intro x hx
      obtain ⟨y, _, rfl⟩ := List.mem_map.mp hx
      exact ⟨Int.fmod_nonneg_of_pos _ (by decide), Int.lt_of_lt_of_le (Int.fmod_lt_of_pos _ (by decide)) (by decide)⟩
    case E => passes_own
    case Q =>
      refine ⟨?_⟩
      intro h8 tk8 m8 n8 ps F8 N8 hm8
      (try dsimp only)
      (repeat' (first | (k_unfold; (try dsimp only)) | (k_end; wrow_close) | (first | with_reducible ((with_reducible show wpAny _ _ (execs (Stmt.Assign [Expr.Name (Str.ofString "figures") _] _ _ :: _) _) _ _ _); refine stop_here ?_) | with_reducible ((with_reducible show ite _ _ _); first | (refine ite_pos (by ((try simp only [decide_eq_true_eq, beq_iff_eq, bne_iff_ne, ne_eq, Bool.not_eq_true']); omega)) ?_; walk_say "m ite +") | (refine ite_neg (by ((try simp only [decide_eq_true_eq, beq_iff_eq, bne_iff_ne, ne_eq, Bool.not_eq_true']); omega)) ?_; walk_say "m ite -")) | with_reducible ((with_reducible show InvEndN _ _ _ _ _ _ _); refine stop_here ?_)) | walk1 | (dsimp only; walk1) | (leave1; walk_say "STEP leave1"; try dsimp only) | fail "no step"))
  · refine' law_tail ho2.out nB nX nT nC nF (newsCons (newsCons (newsCons (newsCons (fun _ h => nomatch h) (nN (205, tabObj #[]) ?n1)) (nN (_ + 1, _) ?n2)) (nN (_ + 1 + 1, _) ?n3)) (nN (_, W.listOf _ _) ?n4)) ?wT ?wO ?l1 ?l0 ?I ?len ?ms ?E ?Q
    case n1 => k_mem
    case n2 => k_mem
    case n3 => k_mem
    case n4 => k_mem
    case wT => exact Eq.trans (by assumption) rfl
    case wO => exact Eq.trans (by assumption) rfl
    case l1 => exact ⟨by omega, by omega, by omega⟩
    case l0 => omega
    case I => exact .cons _ _ (.cons _ _ (.cons _ _ .nil))
    case len => exact ⟨by decide, by decide⟩
    case ms =>
      intro x hx
      simp only [List.mem_cons, List.not_mem_nil, or_false] at hx
      rcases hx with rfl | rfl | rfl <;> decide
    case E => passes_own
    case Q =>
      refine ⟨?_⟩
      intro h8 tk8 m8 n8 ps F8 N8 hm8
      (try dsimp only)
      (repeat' (first | (k_unfold; (try dsimp only)) | (k_end; wrow_close) | (first | with_reducible ((with_reducible show wpAny _ _ (execs (Stmt.Assign [Expr.Name (Str.ofString "figures") _] _ _ :: _) _) _ _ _); refine stop_here ?_) | with_reducible ((with_reducible show ite _ _ _); first | (refine ite_pos (by ((try simp only [decide_eq_true_eq, beq_iff_eq, bne_iff_ne, ne_eq, Bool.not_eq_true']); omega)) ?_; walk_say "m ite +") | (refine ite_neg (by ((try simp only [decide_eq_true_eq, beq_iff_eq, bne_iff_ne, ne_eq, Bool.not_eq_true']); omega)) ?_; walk_say "m ite -")) | with_reducible ((with_reducible show InvEndN _ _ _ _ _ _ _); refine stop_here ?_)) | walk1 | (dsimp only; walk1) | (leave1; walk_say "STEP leave1"; try dsimp only) | fail "no step"))
  · exfalso
    rename decide (_ = []) = false => ha8
    rename _ ∨ _ => hx8
    have h8 := List.length_pos_iff.mpr (of_decide_eq_false ha8)
    omega
  · refine' law_tail ho2.out nB nX nT nC nF (newsCons (newsCons (newsCons (newsCons (fun _ h => nomatch h) (nN (205, tabObj #[]) ?n1)) (nN (_ + 1, _) ?n2)) (nN (_ + 1 + 1, _) ?n3)) (nN (_, W.listOf _ _) ?n4)) ?wT ?wO ?l1 ?l0 ?I ?len ?ms ?E ?Q
    case n1 => k_mem
    case n2 => k_mem
    case n3 => k_mem
    case n4 => k_mem
    case wT => exact Eq.trans (by assumption) rfl
    case wO => exact Eq.trans (by assumption) rfl
    case l1 => exact ⟨by omega, by omega, by omega⟩
    case l0 => omega
    case I => assumption
    case len => exact ⟨by assumption, by rw [List.length_map, List.length_take]; omega⟩
    case ms =>
      intro x hx
      obtain ⟨y, _, rfl⟩ := List.mem_map.mp hx
      exact ⟨Int.fmod_nonneg_of_pos _ (by decide), Int.lt_of_lt_of_le (Int.fmod_lt_of_pos _ (by decide)) (by decide)⟩
    case E => passes_own
    case Q =>
      refine ⟨?_⟩
      intro h8 tk8 m8 n8 ps F8 N8 hm8
      (try dsimp only)
      (repeat' (first | (k_unfold; (try dsimp only)) | (k_end; wrow_close) | (first | with_reducible ((with_reducible show wpAny _ _ (execs (Stmt.Assign [Expr.Name (Str.ofString "figures") _] _ _ :: _) _) _ _ _); refine stop_here ?_) | with_reducible ((with_reducible show ite _ _ _); first | (refine ite_pos (by ((try simp only [decide_eq_true_eq, beq_iff_eq, bne_iff_ne, ne_eq, Bool.not_eq_true']); omega)) ?_; walk_say "m ite +") | (refine ite_neg (by ((try simp only [decide_eq_true_eq, beq_iff_eq, bne_iff_ne, ne_eq, Bool.not_eq_true']); omega)) ?_; walk_say "m ite -")) | with_reducible ((with_reducible show InvEndN _ _ _ _ _ _ _); refine stop_here ?_)) | walk1 | (dsimp only; walk1) | (leave1; walk_say "STEP leave1"; try dsimp only) | fail "no step"))
  · refine' law_tail ho2.out nB nX nT nC nF (newsCons (newsCons (newsCons (newsCons (fun _ h => nomatch h) (nN (205, tabObj #[]) ?n1)) (nN (_ + 1, _) ?n2)) (nN (_ + 1 + 1, _) ?n3)) (nN (_, W.listOf _ _) ?n4)) ?wT ?wO ?l1 ?l0 ?I ?len ?ms ?E ?Q
    case n1 => k_mem
    case n2 => k_mem
    case n3 => k_mem
    case n4 => k_mem
    case wT => exact Eq.trans (by assumption) rfl
    case wO => exact Eq.trans (by assumption) rfl
    case l1 => exact ⟨by omega, by omega, by omega⟩
    case l0 => omega
    case I => exact .cons _ _ (.cons _ _ (.cons _ _ .nil))
    case len => exact ⟨by decide, by decide⟩
    case ms =>
      intro x hx
      simp only [List.mem_cons, List.not_mem_nil, or_false] at hx
      rcases hx with rfl | rfl | rfl <;> decide
    case E => passes_own
    case Q =>
      refine ⟨?_⟩
      intro h8 tk8 m8 n8 ps F8 N8 hm8
      (try dsimp only)
      (repeat' (first | (k_unfold; (try dsimp only)) | (k_end; wrow_close) | (first | with_reducible ((with_reducible show wpAny _ _ (execs (Stmt.Assign [Expr.Name (Str.ofString "figures") _] _ _ :: _) _) _ _ _); refine stop_here ?_) | with_reducible ((with_reducible show ite _ _ _); first | (refine ite_pos (by ((try simp only [decide_eq_true_eq, beq_iff_eq, bne_iff_ne, ne_eq, Bool.not_eq_true']); omega)) ?_; walk_say "m ite +") | (refine ite_neg (by ((try simp only [decide_eq_true_eq, beq_iff_eq, bne_iff_ne, ne_eq, Bool.not_eq_true']); omega)) ?_; walk_say "m ite -")) | with_reducible ((with_reducible show InvEndN _ _ _ _ _ _ _); refine stop_here ?_)) | walk1 | (dsimp only; walk1) | (leave1; walk_say "STEP leave1"; try dsimp only) | fail "no step"))
  done)
end
end Mine

theorem PySem.Challenge.cw_qh0096_01_holds : PySem.Challenge.rw_qh0096_01.Holds :=
  Mine.law_walk
