import PyProof.Rows.All
import Wide.All
import OpenK.AllK
import Wide.FinOn
import Lean
import PySem.Challenge.RW_kq0056_01
set_option Elab.async false
set_option compiler.extract_closed false
section
open PySem PySem.W PyProof.Rows
set_option maxRecDepth 100000
set_option maxHeartbeats 8000000
namespace Mine
/-- the k-th statement of the text's top -/
noncomputable abbrev st (k : Nat) : Stmt := PySem.Challenge.rw_kq0056_01.prog.main.body.getD k default
/-- the statement is a def of these parts -/
noncomputable def IsFn (s : Stmt) (ps : Arguments) (b : List Stmt) (sc : Scope) : Prop := ∃ n dl rt tp ts bn po, s = .FunctionDef n ps b dl rt tp sc ts bn po
/-- the objects that stand behind the top's run and that the walks look at; what is of the program (a def's parameters, body, scope) is taken from the row by unification -/
noncomputable def heapK : Params → Frag := by
  refine' (?f : (p1 : Arguments) → (b1 : List Stmt) → (c1 : Scope) → IsFn (st 1) p1 b1 c1 → (p2 : Arguments) → (b2 : List Stmt) → (c2 : Scope) → IsFn (st 4) p2 b2 c2 → (p3 : Arguments) → (b3 : List Stmt) → (c3 : Scope) → IsFn (st 6) p3 b3 c3 → (p4 : Arguments) → (b4 : List Stmt) → (c4 : Scope) → IsFn (st 9) p4 b4 c4 → (p5 : Arguments) → (b5 : List Stmt) → (c5 : Scope) → IsFn (st 12) p5 b5 c5 → (p6 : Arguments) → (b6 : List Stmt) → (c6 : Scope) → IsFn (st 13) p6 b6 c6 → (p7 : Arguments) → (b7 : List Stmt) → (c7 : Scope) → IsFn (st 14) p7 b7 c7 → (p8 : Arguments) → (b8 : List Stmt) → (c8 : Scope) → IsFn (st 16) p8 b8 c8 → (p9 : Arguments) → (b9 : List Stmt) → (c9 : Scope) → IsFn (st 17) p9 b9 c9 → (p10 : Arguments) → (b10 : List Stmt) → (c10 : Scope) → IsFn (st 18) p10 b10 c10 → (p11 : Arguments) → (b11 : List Stmt) → (c11 : Scope) → IsFn (st 20) p11 b11 c11 → (p12 : Arguments) → (b12 : List Stmt) → (c12 : Scope) → IsFn (st 21) p12 b12 c12 → (p13 : Arguments) → (b13 : List Stmt) → (c13 : Scope) → IsFn (st 24) p13 b13 c13 → (p14 : Arguments) → (b14 : List Stmt) → (c14 : Scope) → IsFn (st 25) p14 b14 c14 → (p15 : Arguments) → (b15 : List Stmt) → (c15 : Scope) → IsFn (st 28) p15 b15 c15 → (p16 : Arguments) → (b16 : List Stmt) → (c16 : Scope) → IsFn (st 29) p16 b16 c16 → (p17 : Arguments) → (b17 : List Stmt) → (c17 : Scope) → IsFn (st 30) p17 b17 c17 → (p18 : Arguments) → (b18 : List Stmt) → (c18 : Scope) → IsFn (st 32) p18 b18 c18 → (p19 : Arguments) → (b19 : List Stmt) → (c19 : Scope) → IsFn (st 33) p19 b19 c19 → (p20 : Arguments) → (b20 : List Stmt) → (c20 : Scope) → IsFn (st 34) p20 b20 c20 → (p21 : Arguments) → (b21 : List Stmt) → (c21 : Scope) → IsFn (st 35) p21 b21 c21 → (p22 : Arguments) → (b22 : List Stmt) → (c22 : Scope) → IsFn (st 36) p22 b22 c22 → (p23 : Arguments) → (b23 : List Stmt) → (c23 : Scope) → IsFn (st 37) p23 b23 c23 → (p24 : Arguments) → (b24 : List Stmt) → (c24 : Scope) → IsFn (st 38) p24 b24 c24 → (p25 : Arguments) → (b25 : List Stmt) → (c25 : Scope) → IsFn (st 39) p25 b25 c25 → Params → Frag) _ _ _ ⟨_, _, _, _, _, _, _, rfl⟩ _ _ _ ⟨_, _, _, _, _, _, _, rfl⟩ _ _ _ ⟨_, _, _, _, _, _, _, rfl⟩ _ _ _ ⟨_, _, _, _, _, _, _, rfl⟩ _ _ _ ⟨_, _, _, _, _, _, _, rfl⟩ _ _ _ ⟨_, _, _, _, _, _, _, rfl⟩ _ _ _ ⟨_, _, _, _, _, _, _, rfl⟩ _ _ _ ⟨_, _, _, _, _, _, _, rfl⟩ _ _ _ ⟨_, _, _, _, _, _, _, rfl⟩ _ _ _ ⟨_, _, _, _, _, _, _, rfl⟩ _ _ _ ⟨_, _, _, _, _, _, _, rfl⟩ _ _ _ ⟨_, _, _, _, _, _, _, rfl⟩ _ _ _ ⟨_, _, _, _, _, _, _, rfl⟩ _ _ _ ⟨_, _, _, _, _, _, _, rfl⟩ _ _ _ ⟨_, _, _, _, _, _, _, rfl⟩ _ _ _ ⟨_, _, _, _, _, _, _, rfl⟩ _ _ _ ⟨_, _, _, _, _, _, _, rfl⟩ _ _ _ ⟨_, _, _, _, _, _, _, rfl⟩ _ _ _ ⟨_, _, _, _, _, _, _, rfl⟩ _ _ _ ⟨_, _, _, _, _, _, _, rfl⟩ _ _ _ ⟨_, _, _, _, _, _, _, rfl⟩ _ _ _ ⟨_, _, _, _, _, _, _, rfl⟩ _ _ _ ⟨_, _, _, _, _, _, _, rfl⟩ _ _ _ ⟨_, _, _, _, _, _, _, rfl⟩ _ _ _ ⟨_, _, _, _, _, _, _, rfl⟩
  case f => exact fun p1 b1 c1 _ p2 b2 c2 _ p3 b3 c3 _ p4 b4 c4 _ p5 b5 c5 _ p6 b6 c6 _ p7 b7 c7 _ p8 b8 c8 _ p9 b9 c9 _ p10 b10 c10 _ p11 b11 c11 _ p12 b12 c12 _ p13 b13 c13 _ p14 b14 c14 _ p15 b15 c15 _ p16 b16 c16 _ p17 b17 c17 _ p18 b18 c18 _ p19 b19 c19 _ p20 b20 c20 _ p21 b21 c21 _ p22 b22 c22 _ p23 b23 c23 _ p24 b24 c24 _ p25 b25 c25 _ => fun P => List.cons (nat_lit 2, (@PySem.Obj.mk PySem.Value.none (@Option.none _) (@PySem.Data.dict (@List.toArray _ [(@PySem.DictEntry.mk (@PySem.PyData.keyHash P (@PySem.Str.ofString "\x69mport.loaded._sre")) (@PySem.Value.str (@PySem.Str.ofString "\x69mport.loaded._sre") 183) (@PySem.Value.bool Bool.true)), (@PySem.DictEntry.mk (@PySem.PyData.keyHash P (@PySem.Str.ofString "class._frozen_importlib.BuiltinImporter")) (@PySem.Value.str (@PySem.Str.ofString "class._frozen_importlib.BuiltinImporter") 185) (@PySem.Value.ref 14)), (@PySem.DictEntry.mk (@PySem.PyData.keyHash P (@PySem.Str.ofString "watched.\x69mport")) (@PySem.Value.str (@PySem.Str.ofString "watched.\x69mport") 206) (@PySem.Value.ref 18)), (@PySem.DictEntry.mk (@PySem.PyData.keyHash P (@PySem.Str.ofString "class._frozen_importlib.ModuleSpec")) (@PySem.Value.str (@PySem.Str.ofString "class._frozen_importlib.ModuleSpec") 216) (@PySem.Value.ref 22)), (@PySem.DictEntry.mk (@PySem.PyData.keyHash P (@PySem.Str.ofString "sys.modules.booked-epoch")) (@PySem.Value.str (@PySem.Str.ofString "sys.modules.booked-epoch") 245) (@PySem.Value.int (@OfNat.ofNat _ (nat_lit 3) _) 0)), (@PySem.DictEntry.mk (@PySem.PyData.keyHash P (@PySem.Str.ofString "\x69mport.later-laid._sre")) (@PySem.Value.str (@PySem.Str.ofString "\x69mport.later-laid._sre") 270) (@PySem.Value.bool Bool.true)), (@PySem.DictEntry.mk (@PySem.PyData.keyHash P (@PySem.Str.ofString "watched.library")) (@PySem.Value.str (@PySem.Str.ofString "watched.library") 272) (@PySem.Value.ref 27)), (@PySem.DictEntry.mk (@PySem.PyData.keyHash P (@PySem.Str.ofString "watched.library-objects")) (@PySem.Value.str (@PySem.Str.ofString "watched.library-objects") 0) (@PySem.Value.str (@PySem.Str.ofString "\x0c") 0)), (@PySem.DictEntry.mk (@PySem.PyData.keyHash P (@PySem.Str.ofString "watched.library-deep._sre")) (@PySem.Value.str (@PySem.Str.ofString "watched.library-deep._sre") 273) (@PySem.Value.str (@PySem.Str.ofString "\x04\x00\x00\x0b\x04\x00\x00\x0b\x04\x00\x00\x03\x04\x00\x00\x0b\x08\x04dict\x02") 0))]) 9) (@List.toArray _ []))) <| List.cons (nat_lit 3, (@PySem.Obj.mk (@PySem.Value.type "dict") (@Option.none _) (@PySem.Data.dict (@List.toArray _ [(@PySem.DictEntry.mk (@PySem.PyData.keyHash P (@PySem.Str.ofString "__name__")) (@PySem.Value.str (@PySem.Str.ofString "__name__") 165) (@PySem.Value.str (@PySem.Str.ofString "law_kq0056_01") 673)), (@PySem.DictEntry.mk (@PySem.PyData.keyHash P (@PySem.Str.ofString "__doc__")) (@PySem.Value.str (@PySem.Str.ofString "__doc__") 166) PySem.Value.none), (@PySem.DictEntry.mk (@PySem.PyData.keyHash P (@PySem.Str.ofString "__package__")) (@PySem.Value.str (@PySem.Str.ofString "__package__") 167) PySem.Value.none), (@PySem.DictEntry.mk (@PySem.PyData.keyHash P (@PySem.Str.ofString "__loader__")) (@PySem.Value.str (@PySem.Str.ofString "__loader__") 168) (@PySem.Value.builtin "__main__.__loader__#opaque")), (@PySem.DictEntry.mk (@PySem.PyData.keyHash P (@PySem.Str.ofString "__spec__")) (@PySem.Value.str (@PySem.Str.ofString "__spec__") 169) PySem.Value.none), (@PySem.DictEntry.mk (@PySem.PyData.keyHash P (@PySem.Str.ofString "__annotations__")) (@PySem.Value.str (@PySem.Str.ofString "__annotations__") 170) (@PySem.Value.ref 6)), (@PySem.DictEntry.mk (@PySem.PyData.keyHash P (@PySem.Str.ofString "__builtins__")) (@PySem.Value.str (@PySem.Str.ofString "__builtins__") 171) (@PySem.Value.ref 4)), (@PySem.DictEntry.mk (@PySem.PyData.keyHash P (@PySem.Str.ofString "__file__")) (@PySem.Value.str (@PySem.Str.ofString "__file__") 173) (@PySem.Value.str (@PySem.Str.ofString "/claim/cut.py") 172)), (@PySem.DictEntry.mk (@PySem.PyData.keyHash P (@PySem.Str.ofString "__cached__")) (@PySem.Value.str (@PySem.Str.ofString "__cached__") 174) PySem.Value.none), (@PySem.DictEntry.mk (@PySem.PyData.keyHash P (@PySem.Str.ofString "_sre")) (@PySem.Value.str (@PySem.Str.ofString "_sre") 275) (@PySem.Value.ref 12)), (@PySem.DictEntry.mk (@PySem.PyData.keyHash P (@PySem.Str.ofString "_wall")) (@PySem.Value.str (@PySem.Str.ofString "_wall") 288) (@PySem.Value.ref 38)), (@PySem.DictEntry.mk (@PySem.PyData.keyHash P (@PySem.Str.ofString "_special_chars_map")) (@PySem.Value.str (@PySem.Str.ofString "_special_chars_map") 436) (@PySem.Value.ref 40)), (@PySem.DictEntry.mk (@PySem.PyData.keyHash P (@PySem.Str.ofString "escape")) (@PySem.Value.str (@PySem.Str.ofString "escape") 443) (@PySem.Value.ref 50)), (@PySem.DictEntry.mk (@PySem.PyData.keyHash P (@PySem.Str.ofString "translate_pattern")) (@PySem.Value.str (@PySem.Str.ofString "translate_pattern") 454) (@PySem.Value.ref 57)), (@PySem.DictEntry.mk (@PySem.PyData.keyHash P (@PySem.Str.ofString "bytes_types")) (@PySem.Value.str (@PySem.Str.ofString "bytes_types") 457) (@PySem.Value.ref 58)), (@PySem.DictEntry.mk (@PySem.PyData.keyHash P (@PySem.Str.ofString "_bytes_from_decode_data")) (@PySem.Value.str (@PySem.Str.ofString "_bytes_from_decode_data") 464) (@PySem.Value.ref 65)), (@PySem.DictEntry.mk (@PySem.PyData.keyHash P (@PySem.Str.ofString "Error")) (@PySem.Value.str (@PySem.Str.ofString "Error") 484) (@PySem.Value.ref 75)), (@PySem.DictEntry.mk (@PySem.PyData.keyHash P (@PySem.Str.ofString "_ascii_buffer")) (@PySem.Value.str (@PySem.Str.ofString "_ascii_buffer") 492) (@PySem.Value.ref 85)), (@PySem.DictEntry.mk (@PySem.PyData.keyHash P (@PySem.Str.ofString "_buffer")) (@PySem.Value.str (@PySem.Str.ofString "_buffer") 500) (@PySem.Value.ref 92)), (@PySem.DictEntry.mk (@PySem.PyData.keyHash P (@PySem.Str.ofString "_truth")) (@PySem.Value.str (@PySem.Str.ofString "_truth") 508) (@PySem.Value.ref 99)), (@PySem.DictEntry.mk (@PySem.PyData.keyHash P (@PySem.Str.ofString "_B64")) (@PySem.Value.str (@PySem.Str.ofString "_B64") 510) (@PySem.Value.bytes (@List.toArray _ [(@OfNat.ofNat _ (nat_lit 65) _), (@OfNat.ofNat _ (nat_lit 66) _), (@OfNat.ofNat _ (nat_lit 67) _), (@OfNat.ofNat _ (nat_lit 68) _), (@OfNat.ofNat _ (nat_lit 69) _), (@OfNat.ofNat _ (nat_lit 70) _), (@OfNat.ofNat _ (nat_lit 71) _), (@OfNat.ofNat _ (nat_lit 72) _), (@OfNat.ofNat _ (nat_lit 73) _), (@OfNat.ofNat _ (nat_lit 74) _), (@OfNat.ofNat _ (nat_lit 75) _), (@OfNat.ofNat _ (nat_lit 76) _), (@OfNat.ofNat _ (nat_lit 77) _), (@OfNat.ofNat _ (nat_lit 78) _), (@OfNat.ofNat _ (nat_lit 79) _), (@OfNat.ofNat _ (nat_lit 80) _), (@OfNat.ofNat _ (nat_lit 81) _), (@OfNat.ofNat _ (nat_lit 82) _), (@OfNat.ofNat _ (nat_lit 83) _), (@OfNat.ofNat _ (nat_lit 84) _), (@OfNat.ofNat _ (nat_lit 85) _), (@OfNat.ofNat _ (nat_lit 86) _), (@OfNat.ofNat _ (nat_lit 87) _), (@OfNat.ofNat _ (nat_lit 88) _), (@OfNat.ofNat _ (nat_lit 89) _), (@OfNat.ofNat _ (nat_lit 90) _), (@OfNat.ofNat _ (nat_lit 97) _), (@OfNat.ofNat _ (nat_lit 98) _), (@OfNat.ofNat _ (nat_lit 99) _), (@OfNat.ofNat _ (nat_lit 100) _), (@OfNat.ofNat _ (nat_lit 101) _), (@OfNat.ofNat _ (nat_lit 102) _), (@OfNat.ofNat _ (nat_lit 103) _), (@OfNat.ofNat _ (nat_lit 104) _), (@OfNat.ofNat _ (nat_lit 105) _), (@OfNat.ofNat _ (nat_lit 106) _), (@OfNat.ofNat _ (nat_lit 107) _), (@OfNat.ofNat _ (nat_lit 108) _), (@OfNat.ofNat _ (nat_lit 109) _), (@OfNat.ofNat _ (nat_lit 110) _), (@OfNat.ofNat _ (nat_lit 111) _), (@OfNat.ofNat _ (nat_lit 112) _), (@OfNat.ofNat _ (nat_lit 113) _), (@OfNat.ofNat _ (nat_lit 114) _), (@OfNat.ofNat _ (nat_lit 115) _), (@OfNat.ofNat _ (nat_lit 116) _), (@OfNat.ofNat _ (nat_lit 117) _), (@OfNat.ofNat _ (nat_lit 118) _), (@OfNat.ofNat _ (nat_lit 119) _), (@OfNat.ofNat _ (nat_lit 120) _), (@OfNat.ofNat _ (nat_lit 121) _), (@OfNat.ofNat _ (nat_lit 122) _), (@OfNat.ofNat _ (nat_lit 48) _), (@OfNat.ofNat _ (nat_lit 49) _), (@OfNat.ofNat _ (nat_lit 50) _), (@OfNat.ofNat _ (nat_lit 51) _), (@OfNat.ofNat _ (nat_lit 52) _), (@OfNat.ofNat _ (nat_lit 53) _), (@OfNat.ofNat _ (nat_lit 54) _), (@OfNat.ofNat _ (nat_lit 55) _), (@OfNat.ofNat _ (nat_lit 56) _), (@OfNat.ofNat _ (nat_lit 57) _), (@OfNat.ofNat _ (nat_lit 43) _), (@OfNat.ofNat _ (nat_lit 47) _)]) 509)), (@PySem.DictEntry.mk (@PySem.PyData.keyHash P (@PySem.Str.ofString "_b64_value")) (@PySem.Value.str (@PySem.Str.ofString "_b64_value") 517) (@PySem.Value.ref 106)), (@PySem.DictEntry.mk (@PySem.PyData.keyHash P (@PySem.Str.ofString "a2b_base64")) (@PySem.Value.str (@PySem.Str.ofString "a2b_base64") 533) (@PySem.Value.ref 114)), (@PySem.DictEntry.mk (@PySem.PyData.keyHash P (@PySem.Str.ofString "b2a_base64")) (@PySem.Value.str (@PySem.Str.ofString "b2a_base64") 547) (@PySem.Value.ref 122)), (@PySem.DictEntry.mk (@PySem.PyData.keyHash P (@PySem.Str.ofString "b64encode")) (@PySem.Value.str (@PySem.Str.ofString "b64encode") 558) (@PySem.Value.ref 130)), (@PySem.DictEntry.mk (@PySem.PyData.keyHash P (@PySem.Str.ofString "b64decode")) (@PySem.Value.str (@PySem.Str.ofString "b64decode") 567) (@PySem.Value.ref 138)), (@PySem.DictEntry.mk (@PySem.PyData.keyHash P (@PySem.Str.ofString "_urlsafe_encode_translation")) (@PySem.Value.str (@PySem.Str.ofString "_urlsafe_encode_translation") 572) (@PySem.Value.bytes (@List.toArray _ [(@OfNat.ofNat _ (nat_lit 0) _), (@OfNat.ofNat _ (nat_lit 1) _), (@OfNat.ofNat _ (nat_lit 2) _), (@OfNat.ofNat _ (nat_lit 3) _), (@OfNat.ofNat _ (nat_lit 4) _), (@OfNat.ofNat _ (nat_lit 5) _), (@OfNat.ofNat _ (nat_lit 6) _), (@OfNat.ofNat _ (nat_lit 7) _), (@OfNat.ofNat _ (nat_lit 8) _), (@OfNat.ofNat _ (nat_lit 9) _), (@OfNat.ofNat _ (nat_lit 10) _), (@OfNat.ofNat _ (nat_lit 11) _), (@OfNat.ofNat _ (nat_lit 12) _), (@OfNat.ofNat _ (nat_lit 13) _), (@OfNat.ofNat _ (nat_lit 14) _), (@OfNat.ofNat _ (nat_lit 15) _), (@OfNat.ofNat _ (nat_lit 16) _), (@OfNat.ofNat _ (nat_lit 17) _), (@OfNat.ofNat _ (nat_lit 18) _), (@OfNat.ofNat _ (nat_lit 19) _), (@OfNat.ofNat _ (nat_lit 20) _), (@OfNat.ofNat _ (nat_lit 21) _), (@OfNat.ofNat _ (nat_lit 22) _), (@OfNat.ofNat _ (nat_lit 23) _), (@OfNat.ofNat _ (nat_lit 24) _), (@OfNat.ofNat _ (nat_lit 25) _), (@OfNat.ofNat _ (nat_lit 26) _), (@OfNat.ofNat _ (nat_lit 27) _), (@OfNat.ofNat _ (nat_lit 28) _), (@OfNat.ofNat _ (nat_lit 29) _), (@OfNat.ofNat _ (nat_lit 30) _), (@OfNat.ofNat _ (nat_lit 31) _), (@OfNat.ofNat _ (nat_lit 32) _), (@OfNat.ofNat _ (nat_lit 33) _), (@OfNat.ofNat _ (nat_lit 34) _), (@OfNat.ofNat _ (nat_lit 35) _), (@OfNat.ofNat _ (nat_lit 36) _), (@OfNat.ofNat _ (nat_lit 37) _), (@OfNat.ofNat _ (nat_lit 38) _), (@OfNat.ofNat _ (nat_lit 39) _), (@OfNat.ofNat _ (nat_lit 40) _), (@OfNat.ofNat _ (nat_lit 41) _), (@OfNat.ofNat _ (nat_lit 42) _), (@OfNat.ofNat _ (nat_lit 45) _), (@OfNat.ofNat _ (nat_lit 44) _), (@OfNat.ofNat _ (nat_lit 45) _), (@OfNat.ofNat _ (nat_lit 46) _), (@OfNat.ofNat _ (nat_lit 95) _), (@OfNat.ofNat _ (nat_lit 48) _), (@OfNat.ofNat _ (nat_lit 49) _), (@OfNat.ofNat _ (nat_lit 50) _), (@OfNat.ofNat _ (nat_lit 51) _), (@OfNat.ofNat _ (nat_lit 52) _), (@OfNat.ofNat _ (nat_lit 53) _), (@OfNat.ofNat _ (nat_lit 54) _), (@OfNat.ofNat _ (nat_lit 55) _), (@OfNat.ofNat _ (nat_lit 56) _), (@OfNat.ofNat _ (nat_lit 57) _), (@OfNat.ofNat _ (nat_lit 58) _), (@OfNat.ofNat _ (nat_lit 59) _), (@OfNat.ofNat _ (nat_lit 60) _), (@OfNat.ofNat _ (nat_lit 61) _), (@OfNat.ofNat _ (nat_lit 62) _), (@OfNat.ofNat _ (nat_lit 63) _), (@OfNat.ofNat _ (nat_lit 64) _), (@OfNat.ofNat _ (nat_lit 65) _), (@OfNat.ofNat _ (nat_lit 66) _), (@OfNat.ofNat _ (nat_lit 67) _), (@OfNat.ofNat _ (nat_lit 68) _), (@OfNat.ofNat _ (nat_lit 69) _), (@OfNat.ofNat _ (nat_lit 70) _), (@OfNat.ofNat _ (nat_lit 71) _), (@OfNat.ofNat _ (nat_lit 72) _), (@OfNat.ofNat _ (nat_lit 73) _), (@OfNat.ofNat _ (nat_lit 74) _), (@OfNat.ofNat _ (nat_lit 75) _), (@OfNat.ofNat _ (nat_lit 76) _), (@OfNat.ofNat _ (nat_lit 77) _), (@OfNat.ofNat _ (nat_lit 78) _), (@OfNat.ofNat _ (nat_lit 79) _), (@OfNat.ofNat _ (nat_lit 80) _), (@OfNat.ofNat _ (nat_lit 81) _), (@OfNat.ofNat _ (nat_lit 82) _), (@OfNat.ofNat _ (nat_lit 83) _), (@OfNat.ofNat _ (nat_lit 84) _), (@OfNat.ofNat _ (nat_lit 85) _), (@OfNat.ofNat _ (nat_lit 86) _), (@OfNat.ofNat _ (nat_lit 87) _), (@OfNat.ofNat _ (nat_lit 88) _), (@OfNat.ofNat _ (nat_lit 89) _), (@OfNat.ofNat _ (nat_lit 90) _), (@OfNat.ofNat _ (nat_lit 91) _), (@OfNat.ofNat _ (nat_lit 92) _), (@OfNat.ofNat _ (nat_lit 93) _), (@OfNat.ofNat _ (nat_lit 94) _), (@OfNat.ofNat _ (nat_lit 95) _), (@OfNat.ofNat _ (nat_lit 96) _), (@OfNat.ofNat _ (nat_lit 97) _), (@OfNat.ofNat _ (nat_lit 98) _), (@OfNat.ofNat _ (nat_lit 99) _), (@OfNat.ofNat _ (nat_lit 100) _), (@OfNat.ofNat _ (nat_lit 101) _), (@OfNat.ofNat _ (nat_lit 102) _), (@OfNat.ofNat _ (nat_lit 103) _), (@OfNat.ofNat _ (nat_lit 104) _), (@OfNat.ofNat _ (nat_lit 105) _), (@OfNat.ofNat _ (nat_lit 106) _), (@OfNat.ofNat _ (nat_lit 107) _), (@OfNat.ofNat _ (nat_lit 108) _), (@OfNat.ofNat _ (nat_lit 109) _), (@OfNat.ofNat _ (nat_lit 110) _), (@OfNat.ofNat _ (nat_lit 111) _), (@OfNat.ofNat _ (nat_lit 112) _), (@OfNat.ofNat _ (nat_lit 113) _), (@OfNat.ofNat _ (nat_lit 114) _), (@OfNat.ofNat _ (nat_lit 115) _), (@OfNat.ofNat _ (nat_lit 116) _), (@OfNat.ofNat _ (nat_lit 117) _), (@OfNat.ofNat _ (nat_lit 118) _), (@OfNat.ofNat _ (nat_lit 119) _), (@OfNat.ofNat _ (nat_lit 120) _), (@OfNat.ofNat _ (nat_lit 121) _), (@OfNat.ofNat _ (nat_lit 122) _), (@OfNat.ofNat _ (nat_lit 123) _), (@OfNat.ofNat _ (nat_lit 124) _), (@OfNat.ofNat _ (nat_lit 125) _), (@OfNat.ofNat _ (nat_lit 126) _), (@OfNat.ofNat _ (nat_lit 127) _), (@OfNat.ofNat _ (nat_lit 128) _), (@OfNat.ofNat _ (nat_lit 129) _), (@OfNat.ofNat _ (nat_lit 130) _), (@OfNat.ofNat _ (nat_lit 131) _), (@OfNat.ofNat _ (nat_lit 132) _), (@OfNat.ofNat _ (nat_lit 133) _), (@OfNat.ofNat _ (nat_lit 134) _), (@OfNat.ofNat _ (nat_lit 135) _), (@OfNat.ofNat _ (nat_lit 136) _), (@OfNat.ofNat _ (nat_lit 137) _), (@OfNat.ofNat _ (nat_lit 138) _), (@OfNat.ofNat _ (nat_lit 139) _), (@OfNat.ofNat _ (nat_lit 140) _), (@OfNat.ofNat _ (nat_lit 141) _), (@OfNat.ofNat _ (nat_lit 142) _), (@OfNat.ofNat _ (nat_lit 143) _), (@OfNat.ofNat _ (nat_lit 144) _), (@OfNat.ofNat _ (nat_lit 145) _), (@OfNat.ofNat _ (nat_lit 146) _), (@OfNat.ofNat _ (nat_lit 147) _), (@OfNat.ofNat _ (nat_lit 148) _), (@OfNat.ofNat _ (nat_lit 149) _), (@OfNat.ofNat _ (nat_lit 150) _), (@OfNat.ofNat _ (nat_lit 151) _), (@OfNat.ofNat _ (nat_lit 152) _), (@OfNat.ofNat _ (nat_lit 153) _), (@OfNat.ofNat _ (nat_lit 154) _), (@OfNat.ofNat _ (nat_lit 155) _), (@OfNat.ofNat _ (nat_lit 156) _), (@OfNat.ofNat _ (nat_lit 157) _), (@OfNat.ofNat _ (nat_lit 158) _), (@OfNat.ofNat _ (nat_lit 159) _), (@OfNat.ofNat _ (nat_lit 160) _), (@OfNat.ofNat _ (nat_lit 161) _), (@OfNat.ofNat _ (nat_lit 162) _), (@OfNat.ofNat _ (nat_lit 163) _), (@OfNat.ofNat _ (nat_lit 164) _), (@OfNat.ofNat _ (nat_lit 165) _), (@OfNat.ofNat _ (nat_lit 166) _), (@OfNat.ofNat _ (nat_lit 167) _), (@OfNat.ofNat _ (nat_lit 168) _), (@OfNat.ofNat _ (nat_lit 169) _), (@OfNat.ofNat _ (nat_lit 170) _), (@OfNat.ofNat _ (nat_lit 171) _), (@OfNat.ofNat _ (nat_lit 172) _), (@OfNat.ofNat _ (nat_lit 173) _), (@OfNat.ofNat _ (nat_lit 174) _), (@OfNat.ofNat _ (nat_lit 175) _), (@OfNat.ofNat _ (nat_lit 176) _), (@OfNat.ofNat _ (nat_lit 177) _), (@OfNat.ofNat _ (nat_lit 178) _), (@OfNat.ofNat _ (nat_lit 179) _), (@OfNat.ofNat _ (nat_lit 180) _), (@OfNat.ofNat _ (nat_lit 181) _), (@OfNat.ofNat _ (nat_lit 182) _), (@OfNat.ofNat _ (nat_lit 183) _), (@OfNat.ofNat _ (nat_lit 184) _), (@OfNat.ofNat _ (nat_lit 185) _), (@OfNat.ofNat _ (nat_lit 186) _), (@OfNat.ofNat _ (nat_lit 187) _), (@OfNat.ofNat _ (nat_lit 188) _), (@OfNat.ofNat _ (nat_lit 189) _), (@OfNat.ofNat _ (nat_lit 190) _), (@OfNat.ofNat _ (nat_lit 191) _), (@OfNat.ofNat _ (nat_lit 192) _), (@OfNat.ofNat _ (nat_lit 193) _), (@OfNat.ofNat _ (nat_lit 194) _), (@OfNat.ofNat _ (nat_lit 195) _), (@OfNat.ofNat _ (nat_lit 196) _), (@OfNat.ofNat _ (nat_lit 197) _), (@OfNat.ofNat _ (nat_lit 198) _), (@OfNat.ofNat _ (nat_lit 199) _), (@OfNat.ofNat _ (nat_lit 200) _), (@OfNat.ofNat _ (nat_lit 201) _), (@OfNat.ofNat _ (nat_lit 202) _), (@OfNat.ofNat _ (nat_lit 203) _), (@OfNat.ofNat _ (nat_lit 204) _), (@OfNat.ofNat _ (nat_lit 205) _), (@OfNat.ofNat _ (nat_lit 206) _), (@OfNat.ofNat _ (nat_lit 207) _), (@OfNat.ofNat _ (nat_lit 208) _), (@OfNat.ofNat _ (nat_lit 209) _), (@OfNat.ofNat _ (nat_lit 210) _), (@OfNat.ofNat _ (nat_lit 211) _), (@OfNat.ofNat _ (nat_lit 212) _), (@OfNat.ofNat _ (nat_lit 213) _), (@OfNat.ofNat _ (nat_lit 214) _), (@OfNat.ofNat _ (nat_lit 215) _), (@OfNat.ofNat _ (nat_lit 216) _), (@OfNat.ofNat _ (nat_lit 217) _), (@OfNat.ofNat _ (nat_lit 218) _), (@OfNat.ofNat _ (nat_lit 219) _), (@OfNat.ofNat _ (nat_lit 220) _), (@OfNat.ofNat _ (nat_lit 221) _), (@OfNat.ofNat _ (nat_lit 222) _), (@OfNat.ofNat _ (nat_lit 223) _), (@OfNat.ofNat _ (nat_lit 224) _), (@OfNat.ofNat _ (nat_lit 225) _), (@OfNat.ofNat _ (nat_lit 226) _), (@OfNat.ofNat _ (nat_lit 227) _), (@OfNat.ofNat _ (nat_lit 228) _), (@OfNat.ofNat _ (nat_lit 229) _), (@OfNat.ofNat _ (nat_lit 230) _), (@OfNat.ofNat _ (nat_lit 231) _), (@OfNat.ofNat _ (nat_lit 232) _), (@OfNat.ofNat _ (nat_lit 233) _), (@OfNat.ofNat _ (nat_lit 234) _), (@OfNat.ofNat _ (nat_lit 235) _), (@OfNat.ofNat _ (nat_lit 236) _), (@OfNat.ofNat _ (nat_lit 237) _), (@OfNat.ofNat _ (nat_lit 238) _), (@OfNat.ofNat _ (nat_lit 239) _), (@OfNat.ofNat _ (nat_lit 240) _), (@OfNat.ofNat _ (nat_lit 241) _), (@OfNat.ofNat _ (nat_lit 242) _), (@OfNat.ofNat _ (nat_lit 243) _), (@OfNat.ofNat _ (nat_lit 244) _), (@OfNat.ofNat _ (nat_lit 245) _), (@OfNat.ofNat _ (nat_lit 246) _), (@OfNat.ofNat _ (nat_lit 247) _), (@OfNat.ofNat _ (nat_lit 248) _), (@OfNat.ofNat _ (nat_lit 249) _), (@OfNat.ofNat _ (nat_lit 250) _), (@OfNat.ofNat _ (nat_lit 251) _), (@OfNat.ofNat _ (nat_lit 252) _), (@OfNat.ofNat _ (nat_lit 253) _), (@OfNat.ofNat _ (nat_lit 254) _), (@OfNat.ofNat _ (nat_lit 255) _)]) 571)), (@PySem.DictEntry.mk (@PySem.PyData.keyHash P (@PySem.Str.ofString "_urlsafe_decode_translation")) (@PySem.Value.str (@PySem.Str.ofString "_urlsafe_decode_translation") 577) (@PySem.Value.bytes (@List.toArray _ [(@OfNat.ofNat _ (nat_lit 0) _), (@OfNat.ofNat _ (nat_lit 1) _), (@OfNat.ofNat _ (nat_lit 2) _), (@OfNat.ofNat _ (nat_lit 3) _), (@OfNat.ofNat _ (nat_lit 4) _), (@OfNat.ofNat _ (nat_lit 5) _), (@OfNat.ofNat _ (nat_lit 6) _), (@OfNat.ofNat _ (nat_lit 7) _), (@OfNat.ofNat _ (nat_lit 8) _), (@OfNat.ofNat _ (nat_lit 9) _), (@OfNat.ofNat _ (nat_lit 10) _), (@OfNat.ofNat _ (nat_lit 11) _), (@OfNat.ofNat _ (nat_lit 12) _), (@OfNat.ofNat _ (nat_lit 13) _), (@OfNat.ofNat _ (nat_lit 14) _), (@OfNat.ofNat _ (nat_lit 15) _), (@OfNat.ofNat _ (nat_lit 16) _), (@OfNat.ofNat _ (nat_lit 17) _), (@OfNat.ofNat _ (nat_lit 18) _), (@OfNat.ofNat _ (nat_lit 19) _), (@OfNat.ofNat _ (nat_lit 20) _), (@OfNat.ofNat _ (nat_lit 21) _), (@OfNat.ofNat _ (nat_lit 22) _), (@OfNat.ofNat _ (nat_lit 23) _), (@OfNat.ofNat _ (nat_lit 24) _), (@OfNat.ofNat _ (nat_lit 25) _), (@OfNat.ofNat _ (nat_lit 26) _), (@OfNat.ofNat _ (nat_lit 27) _), (@OfNat.ofNat _ (nat_lit 28) _), (@OfNat.ofNat _ (nat_lit 29) _), (@OfNat.ofNat _ (nat_lit 30) _), (@OfNat.ofNat _ (nat_lit 31) _), (@OfNat.ofNat _ (nat_lit 32) _), (@OfNat.ofNat _ (nat_lit 33) _), (@OfNat.ofNat _ (nat_lit 34) _), (@OfNat.ofNat _ (nat_lit 35) _), (@OfNat.ofNat _ (nat_lit 36) _), (@OfNat.ofNat _ (nat_lit 37) _), (@OfNat.ofNat _ (nat_lit 38) _), (@OfNat.ofNat _ (nat_lit 39) _), (@OfNat.ofNat _ (nat_lit 40) _), (@OfNat.ofNat _ (nat_lit 41) _), (@OfNat.ofNat _ (nat_lit 42) _), (@OfNat.ofNat _ (nat_lit 43) _), (@OfNat.ofNat _ (nat_lit 44) _), (@OfNat.ofNat _ (nat_lit 43) _), (@OfNat.ofNat _ (nat_lit 46) _), (@OfNat.ofNat _ (nat_lit 47) _), (@OfNat.ofNat _ (nat_lit 48) _), (@OfNat.ofNat _ (nat_lit 49) _), (@OfNat.ofNat _ (nat_lit 50) _), (@OfNat.ofNat _ (nat_lit 51) _), (@OfNat.ofNat _ (nat_lit 52) _), (@OfNat.ofNat _ (nat_lit 53) _), (@OfNat.ofNat _ (nat_lit 54) _), (@OfNat.ofNat _ (nat_lit 55) _), (@OfNat.ofNat _ (nat_lit 56) _), (@OfNat.ofNat _ (nat_lit 57) _), (@OfNat.ofNat _ (nat_lit 58) _), (@OfNat.ofNat _ (nat_lit 59) _), (@OfNat.ofNat _ (nat_lit 60) _), (@OfNat.ofNat _ (nat_lit 61) _), (@OfNat.ofNat _ (nat_lit 62) _), (@OfNat.ofNat _ (nat_lit 63) _), (@OfNat.ofNat _ (nat_lit 64) _), (@OfNat.ofNat _ (nat_lit 65) _), (@OfNat.ofNat _ (nat_lit 66) _), (@OfNat.ofNat _ (nat_lit 67) _), (@OfNat.ofNat _ (nat_lit 68) _), (@OfNat.ofNat _ (nat_lit 69) _), (@OfNat.ofNat _ (nat_lit 70) _), (@OfNat.ofNat _ (nat_lit 71) _), (@OfNat.ofNat _ (nat_lit 72) _), (@OfNat.ofNat _ (nat_lit 73) _), (@OfNat.ofNat _ (nat_lit 74) _), (@OfNat.ofNat _ (nat_lit 75) _), (@OfNat.ofNat _ (nat_lit 76) _), (@OfNat.ofNat _ (nat_lit 77) _), (@OfNat.ofNat _ (nat_lit 78) _), (@OfNat.ofNat _ (nat_lit 79) _), (@OfNat.ofNat _ (nat_lit 80) _), (@OfNat.ofNat _ (nat_lit 81) _), (@OfNat.ofNat _ (nat_lit 82) _), (@OfNat.ofNat _ (nat_lit 83) _), (@OfNat.ofNat _ (nat_lit 84) _), (@OfNat.ofNat _ (nat_lit 85) _), (@OfNat.ofNat _ (nat_lit 86) _), (@OfNat.ofNat _ (nat_lit 87) _), (@OfNat.ofNat _ (nat_lit 88) _), (@OfNat.ofNat _ (nat_lit 89) _), (@OfNat.ofNat _ (nat_lit 90) _), (@OfNat.ofNat _ (nat_lit 91) _), (@OfNat.ofNat _ (nat_lit 92) _), (@OfNat.ofNat _ (nat_lit 93) _), (@OfNat.ofNat _ (nat_lit 94) _), (@OfNat.ofNat _ (nat_lit 47) _), (@OfNat.ofNat _ (nat_lit 96) _), (@OfNat.ofNat _ (nat_lit 97) _), (@OfNat.ofNat _ (nat_lit 98) _), (@OfNat.ofNat _ (nat_lit 99) _), (@OfNat.ofNat _ (nat_lit 100) _), (@OfNat.ofNat _ (nat_lit 101) _), (@OfNat.ofNat _ (nat_lit 102) _), (@OfNat.ofNat _ (nat_lit 103) _), (@OfNat.ofNat _ (nat_lit 104) _), (@OfNat.ofNat _ (nat_lit 105) _), (@OfNat.ofNat _ (nat_lit 106) _), (@OfNat.ofNat _ (nat_lit 107) _), (@OfNat.ofNat _ (nat_lit 108) _), (@OfNat.ofNat _ (nat_lit 109) _), (@OfNat.ofNat _ (nat_lit 110) _), (@OfNat.ofNat _ (nat_lit 111) _), (@OfNat.ofNat _ (nat_lit 112) _), (@OfNat.ofNat _ (nat_lit 113) _), (@OfNat.ofNat _ (nat_lit 114) _), (@OfNat.ofNat _ (nat_lit 115) _), (@OfNat.ofNat _ (nat_lit 116) _), (@OfNat.ofNat _ (nat_lit 117) _), (@OfNat.ofNat _ (nat_lit 118) _), (@OfNat.ofNat _ (nat_lit 119) _), (@OfNat.ofNat _ (nat_lit 120) _), (@OfNat.ofNat _ (nat_lit 121) _), (@OfNat.ofNat _ (nat_lit 122) _), (@OfNat.ofNat _ (nat_lit 123) _), (@OfNat.ofNat _ (nat_lit 124) _), (@OfNat.ofNat _ (nat_lit 125) _), (@OfNat.ofNat _ (nat_lit 126) _), (@OfNat.ofNat _ (nat_lit 127) _), (@OfNat.ofNat _ (nat_lit 128) _), (@OfNat.ofNat _ (nat_lit 129) _), (@OfNat.ofNat _ (nat_lit 130) _), (@OfNat.ofNat _ (nat_lit 131) _), (@OfNat.ofNat _ (nat_lit 132) _), (@OfNat.ofNat _ (nat_lit 133) _), (@OfNat.ofNat _ (nat_lit 134) _), (@OfNat.ofNat _ (nat_lit 135) _), (@OfNat.ofNat _ (nat_lit 136) _), (@OfNat.ofNat _ (nat_lit 137) _), (@OfNat.ofNat _ (nat_lit 138) _), (@OfNat.ofNat _ (nat_lit 139) _), (@OfNat.ofNat _ (nat_lit 140) _), (@OfNat.ofNat _ (nat_lit 141) _), (@OfNat.ofNat _ (nat_lit 142) _), (@OfNat.ofNat _ (nat_lit 143) _), (@OfNat.ofNat _ (nat_lit 144) _), (@OfNat.ofNat _ (nat_lit 145) _), (@OfNat.ofNat _ (nat_lit 146) _), (@OfNat.ofNat _ (nat_lit 147) _), (@OfNat.ofNat _ (nat_lit 148) _), (@OfNat.ofNat _ (nat_lit 149) _), (@OfNat.ofNat _ (nat_lit 150) _), (@OfNat.ofNat _ (nat_lit 151) _), (@OfNat.ofNat _ (nat_lit 152) _), (@OfNat.ofNat _ (nat_lit 153) _), (@OfNat.ofNat _ (nat_lit 154) _), (@OfNat.ofNat _ (nat_lit 155) _), (@OfNat.ofNat _ (nat_lit 156) _), (@OfNat.ofNat _ (nat_lit 157) _), (@OfNat.ofNat _ (nat_lit 158) _), (@OfNat.ofNat _ (nat_lit 159) _), (@OfNat.ofNat _ (nat_lit 160) _), (@OfNat.ofNat _ (nat_lit 161) _), (@OfNat.ofNat _ (nat_lit 162) _), (@OfNat.ofNat _ (nat_lit 163) _), (@OfNat.ofNat _ (nat_lit 164) _), (@OfNat.ofNat _ (nat_lit 165) _), (@OfNat.ofNat _ (nat_lit 166) _), (@OfNat.ofNat _ (nat_lit 167) _), (@OfNat.ofNat _ (nat_lit 168) _), (@OfNat.ofNat _ (nat_lit 169) _), (@OfNat.ofNat _ (nat_lit 170) _), (@OfNat.ofNat _ (nat_lit 171) _), (@OfNat.ofNat _ (nat_lit 172) _), (@OfNat.ofNat _ (nat_lit 173) _), (@OfNat.ofNat _ (nat_lit 174) _), (@OfNat.ofNat _ (nat_lit 175) _), (@OfNat.ofNat _ (nat_lit 176) _), (@OfNat.ofNat _ (nat_lit 177) _), (@OfNat.ofNat _ (nat_lit 178) _), (@OfNat.ofNat _ (nat_lit 179) _), (@OfNat.ofNat _ (nat_lit 180) _), (@OfNat.ofNat _ (nat_lit 181) _), (@OfNat.ofNat _ (nat_lit 182) _), (@OfNat.ofNat _ (nat_lit 183) _), (@OfNat.ofNat _ (nat_lit 184) _), (@OfNat.ofNat _ (nat_lit 185) _), (@OfNat.ofNat _ (nat_lit 186) _), (@OfNat.ofNat _ (nat_lit 187) _), (@OfNat.ofNat _ (nat_lit 188) _), (@OfNat.ofNat _ (nat_lit 189) _), (@OfNat.ofNat _ (nat_lit 190) _), (@OfNat.ofNat _ (nat_lit 191) _), (@OfNat.ofNat _ (nat_lit 192) _), (@OfNat.ofNat _ (nat_lit 193) _), (@OfNat.ofNat _ (nat_lit 194) _), (@OfNat.ofNat _ (nat_lit 195) _), (@OfNat.ofNat _ (nat_lit 196) _), (@OfNat.ofNat _ (nat_lit 197) _), (@OfNat.ofNat _ (nat_lit 198) _), (@OfNat.ofNat _ (nat_lit 199) _), (@OfNat.ofNat _ (nat_lit 200) _), (@OfNat.ofNat _ (nat_lit 201) _), (@OfNat.ofNat _ (nat_lit 202) _), (@OfNat.ofNat _ (nat_lit 203) _), (@OfNat.ofNat _ (nat_lit 204) _), (@OfNat.ofNat _ (nat_lit 205) _), (@OfNat.ofNat _ (nat_lit 206) _), (@OfNat.ofNat _ (nat_lit 207) _), (@OfNat.ofNat _ (nat_lit 208) _), (@OfNat.ofNat _ (nat_lit 209) _), (@OfNat.ofNat _ (nat_lit 210) _), (@OfNat.ofNat _ (nat_lit 211) _), (@OfNat.ofNat _ (nat_lit 212) _), (@OfNat.ofNat _ (nat_lit 213) _), (@OfNat.ofNat _ (nat_lit 214) _), (@OfNat.ofNat _ (nat_lit 215) _), (@OfNat.ofNat _ (nat_lit 216) _), (@OfNat.ofNat _ (nat_lit 217) _), (@OfNat.ofNat _ (nat_lit 218) _), (@OfNat.ofNat _ (nat_lit 219) _), (@OfNat.ofNat _ (nat_lit 220) _), (@OfNat.ofNat _ (nat_lit 221) _), (@OfNat.ofNat _ (nat_lit 222) _), (@OfNat.ofNat _ (nat_lit 223) _), (@OfNat.ofNat _ (nat_lit 224) _), (@OfNat.ofNat _ (nat_lit 225) _), (@OfNat.ofNat _ (nat_lit 226) _), (@OfNat.ofNat _ (nat_lit 227) _), (@OfNat.ofNat _ (nat_lit 228) _), (@OfNat.ofNat _ (nat_lit 229) _), (@OfNat.ofNat _ (nat_lit 230) _), (@OfNat.ofNat _ (nat_lit 231) _), (@OfNat.ofNat _ (nat_lit 232) _), (@OfNat.ofNat _ (nat_lit 233) _), (@OfNat.ofNat _ (nat_lit 234) _), (@OfNat.ofNat _ (nat_lit 235) _), (@OfNat.ofNat _ (nat_lit 236) _), (@OfNat.ofNat _ (nat_lit 237) _), (@OfNat.ofNat _ (nat_lit 238) _), (@OfNat.ofNat _ (nat_lit 239) _), (@OfNat.ofNat _ (nat_lit 240) _), (@OfNat.ofNat _ (nat_lit 241) _), (@OfNat.ofNat _ (nat_lit 242) _), (@OfNat.ofNat _ (nat_lit 243) _), (@OfNat.ofNat _ (nat_lit 244) _), (@OfNat.ofNat _ (nat_lit 245) _), (@OfNat.ofNat _ (nat_lit 246) _), (@OfNat.ofNat _ (nat_lit 247) _), (@OfNat.ofNat _ (nat_lit 248) _), (@OfNat.ofNat _ (nat_lit 249) _), (@OfNat.ofNat _ (nat_lit 250) _), (@OfNat.ofNat _ (nat_lit 251) _), (@OfNat.ofNat _ (nat_lit 252) _), (@OfNat.ofNat _ (nat_lit 253) _), (@OfNat.ofNat _ (nat_lit 254) _), (@OfNat.ofNat _ (nat_lit 255) _)]) 576)), (@PySem.DictEntry.mk (@PySem.PyData.keyHash P (@PySem.Str.ofString "urlsafe_b64encode")) (@PySem.Value.str (@PySem.Str.ofString "urlsafe_b64encode") 584) (@PySem.Value.ref 145)), (@PySem.DictEntry.mk (@PySem.PyData.keyHash P (@PySem.Str.ofString "urlsafe_b64decode")) (@PySem.Value.str (@PySem.Str.ofString "urlsafe_b64decode") 591) (@PySem.Value.ref 152)), (@PySem.DictEntry.mk (@PySem.PyData.keyHash P (@PySem.Str.ofString "_twin_re_1")) (@PySem.Value.str (@PySem.Str.ofString "_twin_re_1") 631) (@PySem.Value.ref 157)), (@PySem.DictEntry.mk (@PySem.PyData.keyHash P (@PySem.Str.ofString "translate")) (@PySem.Value.str (@PySem.Str.ofString "translate") 640) (@PySem.Value.ref 164)), (@PySem.DictEntry.mk (@PySem.PyData.keyHash P (@PySem.Str.ofString "_translate")) (@PySem.Value.str (@PySem.Str.ofString "_translate") 659) (@PySem.Value.ref 171)), (@PySem.DictEntry.mk (@PySem.PyData.keyHash P (@PySem.Str.ofString "_join_translated_parts")) (@PySem.Value.str (@PySem.Str.ofString "_join_translated_parts") 672) (@PySem.Value.ref 178)), (@PySem.DictEntry.mk (@PySem.PyData.keyHash P (@PySem.Str.ofString "_law_octets")) (@PySem.Value.str (@PySem.Str.ofString "_law_octets") 680) (@PySem.Value.ref 183)), (@PySem.DictEntry.mk (@PySem.PyData.keyHash P (@PySem.Str.ofString "_law_written")) (@PySem.Value.str (@PySem.Str.ofString "_law_written") 688) (@PySem.Value.ref 190)), (@PySem.DictEntry.mk (@PySem.PyData.keyHash P (@PySem.Str.ofString "_law_sixes")) (@PySem.Value.str (@PySem.Str.ofString "_law_sixes") 694) (@PySem.Value.ref 195)), (@PySem.DictEntry.mk (@PySem.PyData.keyHash P (@PySem.Str.ofString "_law_back")) (@PySem.Value.str (@PySem.Str.ofString "_law_back") 702) (@PySem.Value.ref 202)), (@PySem.DictEntry.mk (@PySem.PyData.keyHash P (@PySem.Str.ofString "_law_escaped")) (@PySem.Value.str (@PySem.Str.ofString "_law_escaped") 708) (@PySem.Value.ref 207)), (@PySem.DictEntry.mk (@PySem.PyData.keyHash P (@PySem.Str.ofString "_law_text")) (@PySem.Value.str (@PySem.Str.ofString "_law_text") 714) (@PySem.Value.ref 212)), (@PySem.DictEntry.mk (@PySem.PyData.keyHash P (@PySem.Str.ofString "_law_cut")) (@PySem.Value.str (@PySem.Str.ofString "_law_cut") 720) (@PySem.Value.ref 217)), (@PySem.DictEntry.mk (@PySem.PyData.keyHash P (@PySem.Str.ofString "law")) (@PySem.Value.str (@PySem.Str.ofString "law") 726) (@PySem.Value.ref 222))]) 42) (@List.toArray _ []))) <| List.cons (nat_lit 32, (@PySem.Obj.mk (@PySem.Value.type "tuple") (@Option.none _) (@PySem.Data.seq (@List.toArray _ []) 0) (@List.toArray _ []))) <| List.cons (nat_lit 34, (@PySem.Obj.mk (@PySem.Value.type "tuple") (@Option.none _) (@PySem.Data.seq (@List.toArray _ [(@PySem.Value.str (@PySem.Str.ofString "k") 285)]) 0) (@List.toArray _ []))) <| List.cons (nat_lit 35, (@PySem.Obj.mk (@PySem.Value.type "tuple") (@Option.none _) (@PySem.Data.seq (@List.toArray _ []) 0) (@List.toArray _ []))) <| List.cons (nat_lit 37, (@PySem.Obj.mk (@PySem.Value.type "code") (@Option.none _) (@PySem.Data.fields (@List.toArray _ [(@PySem.Value.str (@PySem.Str.ofString "_wall") 282), (@PySem.Value.str (@PySem.Str.ofString "_wall") 283), (@PySem.Value.str (@PySem.Str.ofString "/claim/cut.py") 284), (@PySem.Value.int (@OfNat.ofNat _ (nat_lit 2) _) 0), (@PySem.Value.int (@OfNat.ofNat _ (nat_lit 1) _) 0), (@PySem.Value.int (@OfNat.ofNat _ (nat_lit 0) _) 0), (@PySem.Value.int (@OfNat.ofNat _ (nat_lit 0) _) 0), (@PySem.Value.int (@OfNat.ofNat _ (nat_lit 3) _) 0), (@PySem.Value.ref 32), (@PySem.Value.bool Bool.true), (@PySem.Value.int (@OfNat.ofNat _ (nat_lit 276) _) 0), (@PySem.Value.ref 33), PySem.Value.none, (@PySem.Value.ref 34), (@PySem.Value.ref 35), (@PySem.Value.ref 36), (@PySem.Value.int (@OfNat.ofNat _ (nat_lit 286) _) 0), (@PySem.Value.int (@OfNat.ofNat _ (nat_lit 2) _) 0), (@PySem.Value.str (@PySem.Str.ofString "/claim/cut.py") 287)])) (@List.toArray _ []))) <| List.cons (nat_lit 38, (@PySem.Obj.mk (@PySem.Value.type "function") (@Option.none _) (@PySem.Data.func (@PySem.FuncData.mk (@PySem.Str.ofString "_wall") (@PySem.Str.ofString "_wall") p1 (@PySem.FuncBody.stmts b1) c1 3 [] PySem.Value.none PySem.Value.none PySem.Value.none (@PySem.Value.str (@PySem.Str.ofString "__main__") 164) (@Option.none _) (@PySem.Value.ref 37) PySem.Value.none 0)) (@List.toArray _ []))) <| List.cons (nat_lit 40, (@PySem.Obj.mk (@PySem.Value.type "dict") (@Option.none _) (@PySem.Data.dict (@List.toArray _ [(@PySem.DictEntry.mk (@OfNat.ofNat _ (nat_lit 40) _) (@PySem.Value.int (@OfNat.ofNat _ (nat_lit 40) _) 292) (@PySem.Value.str (@PySem.Str.ofString "\\(") 296)), (@PySem.DictEntry.mk (@OfNat.ofNat _ (nat_lit 41) _) (@PySem.Value.int (@OfNat.ofNat _ (nat_lit 41) _) 298) (@PySem.Value.str (@PySem.Str.ofString "\\)") 302)), (@PySem.DictEntry.mk (@OfNat.ofNat _ (nat_lit 91) _) (@PySem.Value.int (@OfNat.ofNat _ (nat_lit 91) _) 304) (@PySem.Value.str (@PySem.Str.ofString "\\[") 308)), (@PySem.DictEntry.mk (@OfNat.ofNat _ (nat_lit 93) _) (@PySem.Value.int (@OfNat.ofNat _ (nat_lit 93) _) 310) (@PySem.Value.str (@PySem.Str.ofString "\\]") 314)), (@PySem.DictEntry.mk (@OfNat.ofNat _ (nat_lit 123) _) (@PySem.Value.int (@OfNat.ofNat _ (nat_lit 123) _) 316) (@PySem.Value.str (@PySem.Str.ofString "\\{") 320)), (@PySem.DictEntry.mk (@OfNat.ofNat _ (nat_lit 125) _) (@PySem.Value.int (@OfNat.ofNat _ (nat_lit 125) _) 322) (@PySem.Value.str (@PySem.Str.ofString "\\}") 326)), (@PySem.DictEntry.mk (@OfNat.ofNat _ (nat_lit 63) _) (@PySem.Value.int (@OfNat.ofNat _ (nat_lit 63) _) 328) (@PySem.Value.str (@PySem.Str.ofString "\\?") 332)), (@PySem.DictEntry.mk (@OfNat.ofNat _ (nat_lit 42) _) (@PySem.Value.int (@OfNat.ofNat _ (nat_lit 42) _) 334) (@PySem.Value.str (@PySem.Str.ofString "\\*") 338)), (@PySem.DictEntry.mk (@OfNat.ofNat _ (nat_lit 43) _) (@PySem.Value.int (@OfNat.ofNat _ (nat_lit 43) _) 340) (@PySem.Value.str (@PySem.Str.ofString "\\+") 344)), (@PySem.DictEntry.mk (@OfNat.ofNat _ (nat_lit 45) _) (@PySem.Value.int (@OfNat.ofNat _ (nat_lit 45) _) 346) (@PySem.Value.str (@PySem.Str.ofString "\\-") 350)), (@PySem.DictEntry.mk (@OfNat.ofNat _ (nat_lit 124) _) (@PySem.Value.int (@OfNat.ofNat _ (nat_lit 124) _) 352) (@PySem.Value.str (@PySem.Str.ofString "\\|") 356)), (@PySem.DictEntry.mk (@OfNat.ofNat _ (nat_lit 94) _) (@PySem.Value.int (@OfNat.ofNat _ (nat_lit 94) _) 358) (@PySem.Value.str (@PySem.Str.ofString "\\^") 362)), (@PySem.DictEntry.mk (@OfNat.ofNat _ (nat_lit 36) _) (@PySem.Value.int (@OfNat.ofNat _ (nat_lit 36) _) 364) (@PySem.Value.str (@PySem.Str.ofString "\\$") 368)), (@PySem.DictEntry.mk (@OfNat.ofNat _ (nat_lit 92) _) (@PySem.Value.int (@OfNat.ofNat _ (nat_lit 92) _) 370) (@PySem.Value.str (@PySem.Str.ofString "\\\\") 374)), (@PySem.DictEntry.mk (@OfNat.ofNat _ (nat_lit 46) _) (@PySem.Value.int (@OfNat.ofNat _ (nat_lit 46) _) 376) (@PySem.Value.str (@PySem.Str.ofString "\\.") 380)), (@PySem.DictEntry.mk (@OfNat.ofNat _ (nat_lit 38) _) (@PySem.Value.int (@OfNat.ofNat _ (nat_lit 38) _) 382) (@PySem.Value.str (@PySem.Str.ofString "\\&") 386)), (@PySem.DictEntry.mk (@OfNat.ofNat _ (nat_lit 126) _) (@PySem.Value.int (@OfNat.ofNat _ (nat_lit 126) _) 388) (@PySem.Value.str (@PySem.Str.ofString "\\~") 392)), (@PySem.DictEntry.mk (@OfNat.ofNat _ (nat_lit 35) _) (@PySem.Value.int (@OfNat.ofNat _ (nat_lit 35) _) 394) (@PySem.Value.str (@PySem.Str.ofString "\\#") 398)), (@PySem.DictEntry.mk (@OfNat.ofNat _ (nat_lit 32) _) (@PySem.Value.int (@OfNat.ofNat _ (nat_lit 32) _) 400) (@PySem.Value.str (@PySem.Str.ofString "\\ ") 404)), (@PySem.DictEntry.mk (@OfNat.ofNat _ (nat_lit 9) _) (@PySem.Value.int (@OfNat.ofNat _ (nat_lit 9) _) 406) (@PySem.Value.str (@PySem.Str.ofString "\\\t") 410)), (@PySem.DictEntry.mk (@OfNat.ofNat _ (nat_lit 10) _) (@PySem.Value.int (@OfNat.ofNat _ (nat_lit 10) _) 412) (@PySem.Value.str (@PySem.Str.ofString "\\\n") 416)), (@PySem.DictEntry.mk (@OfNat.ofNat _ (nat_lit 13) _) (@PySem.Value.int (@OfNat.ofNat _ (nat_lit 13) _) 418) (@PySem.Value.str (@PySem.Str.ofString "\\\x0d") 422)), (@PySem.DictEntry.mk (@OfNat.ofNat _ (nat_lit 11) _) (@PySem.Value.int (@OfNat.ofNat _ (nat_lit 11) _) 424) (@PySem.Value.str (@PySem.Str.ofString "\\\x0b") 428)), (@PySem.DictEntry.mk (@OfNat.ofNat _ (nat_lit 12) _) (@PySem.Value.int (@OfNat.ofNat _ (nat_lit 12) _) 430) (@PySem.Value.str (@PySem.Str.ofString "\\\x0c") 434))]) 24) (@List.toArray _ []))) <| List.cons (nat_lit 44, (@PySem.Obj.mk (@PySem.Value.type "tuple") (@Option.none _) (@PySem.Data.seq (@List.toArray _ []) 0) (@List.toArray _ []))) <| List.cons (nat_lit 46, (@PySem.Obj.mk (@PySem.Value.type "tuple") (@Option.none _) (@PySem.Data.seq (@List.toArray _ [(@PySem.Value.str (@PySem.Str.ofString "pattern") 440)]) 0) (@List.toArray _ []))) <| List.cons (nat_lit 47, (@PySem.Obj.mk (@PySem.Value.type "tuple") (@Option.none _) (@PySem.Data.seq (@List.toArray _ []) 0) (@List.toArray _ []))) <| List.cons (nat_lit 49, (@PySem.Obj.mk (@PySem.Value.type "code") (@Option.none _) (@PySem.Data.fields (@List.toArray _ [(@PySem.Value.str (@PySem.Str.ofString "escape") 437), (@PySem.Value.str (@PySem.Str.ofString "escape") 438), (@PySem.Value.str (@PySem.Str.ofString "/claim/cut.py") 439), (@PySem.Value.int (@OfNat.ofNat _ (nat_lit 7) _) 0), (@PySem.Value.int (@OfNat.ofNat _ (nat_lit 1) _) 0), (@PySem.Value.int (@OfNat.ofNat _ (nat_lit 0) _) 0), (@PySem.Value.int (@OfNat.ofNat _ (nat_lit 0) _) 0), (@PySem.Value.int (@OfNat.ofNat _ (nat_lit 3) _) 0), (@PySem.Value.ref 44), (@PySem.Value.bool Bool.true), (@PySem.Value.int (@OfNat.ofNat _ (nat_lit 276) _) 0), (@PySem.Value.ref 45), PySem.Value.none, (@PySem.Value.ref 46), (@PySem.Value.ref 47), (@PySem.Value.ref 48), (@PySem.Value.int (@OfNat.ofNat _ (nat_lit 441) _) 0), (@PySem.Value.int (@OfNat.ofNat _ (nat_lit 7) _) 0), (@PySem.Value.str (@PySem.Str.ofString "/claim/cut.py") 442)])) (@List.toArray _ []))) <| List.cons (nat_lit 50, (@PySem.Obj.mk (@PySem.Value.type "function") (@Option.none _) (@PySem.Data.func (@PySem.FuncData.mk (@PySem.Str.ofString "escape") (@PySem.Str.ofString "escape") p2 (@PySem.FuncBody.stmts b2) c2 3 [] PySem.Value.none PySem.Value.none PySem.Value.none (@PySem.Value.str (@PySem.Str.ofString "re") 289) (@Option.none _) (@PySem.Value.ref 49) PySem.Value.none 0)) (@List.toArray _ []))) <| List.cons (nat_lit 51, (@PySem.Obj.mk (@PySem.Value.type "tuple") (@Option.none _) (@PySem.Data.seq (@List.toArray _ []) 0) (@List.toArray _ []))) <| List.cons (nat_lit 53, (@PySem.Obj.mk (@PySem.Value.type "tuple") (@Option.none _) (@PySem.Data.seq (@List.toArray _ [(@PySem.Value.str (@PySem.Str.ofString "path") 449), (@PySem.Value.str (@PySem.Str.ofString "parts") 450), (@PySem.Value.str (@PySem.Str.ofString "i") 451)]) 0) (@List.toArray _ []))) <| List.cons (nat_lit 54, (@PySem.Obj.mk (@PySem.Value.type "tuple") (@Option.none _) (@PySem.Data.seq (@List.toArray _ []) 0) (@List.toArray _ []))) <| List.cons (nat_lit 56, (@PySem.Obj.mk (@PySem.Value.type "code") (@Option.none _) (@PySem.Data.fields (@List.toArray _ [(@PySem.Value.str (@PySem.Str.ofString "translate_pattern") 446), (@PySem.Value.str (@PySem.Str.ofString "translate_pattern") 447), (@PySem.Value.str (@PySem.Str.ofString "/claim/cut.py") 448), (@PySem.Value.int (@OfNat.ofNat _ (nat_lit 14) _) 0), (@PySem.Value.int (@OfNat.ofNat _ (nat_lit 1) _) 0), (@PySem.Value.int (@OfNat.ofNat _ (nat_lit 0) _) 0), (@PySem.Value.int (@OfNat.ofNat _ (nat_lit 0) _) 0), (@PySem.Value.int (@OfNat.ofNat _ (nat_lit 3) _) 0), (@PySem.Value.ref 51), (@PySem.Value.bool Bool.true), (@PySem.Value.int (@OfNat.ofNat _ (nat_lit 276) _) 0), (@PySem.Value.ref 52), PySem.Value.none, (@PySem.Value.ref 53), (@PySem.Value.ref 54), (@PySem.Value.ref 55), (@PySem.Value.int (@OfNat.ofNat _ (nat_lit 452) _) 0), (@PySem.Value.int (@OfNat.ofNat _ (nat_lit 14) _) 0), (@PySem.Value.str (@PySem.Str.ofString "/claim/cut.py") 453)])) (@List.toArray _ []))) <| List.cons (nat_lit 57, (@PySem.Obj.mk (@PySem.Value.type "function") (@Option.none _) (@PySem.Data.func (@PySem.FuncData.mk (@PySem.Str.ofString "translate_pattern") (@PySem.Str.ofString "translate_pattern") p3 (@PySem.FuncBody.stmts b3) c3 3 [] PySem.Value.none PySem.Value.none PySem.Value.none (@PySem.Value.str (@PySem.Str.ofString "cpy313.urllib.robotparser") 444) (@Option.none _) (@PySem.Value.ref 56) PySem.Value.none 0)) (@List.toArray _ []))) <| List.cons (nat_lit 58, (@PySem.Obj.mk (@PySem.Value.type "tuple") (@Option.none _) (@PySem.Data.seq (@List.toArray _ [(@PySem.Value.type "bytes"), (@PySem.Value.type "bytearray")]) 0) (@List.toArray _ []))) <| List.cons (nat_lit 59, (@PySem.Obj.mk (@PySem.Value.type "tuple") (@Option.none _) (@PySem.Data.seq (@List.toArray _ []) 0) (@List.toArray _ []))) <| List.cons (nat_lit 61, (@PySem.Obj.mk (@PySem.Value.type "tuple") (@Option.none _) (@PySem.Data.seq (@List.toArray _ [(@PySem.Value.str (@PySem.Str.ofString "s") 461)]) 0) (@List.toArray _ []))) <| List.cons (nat_lit 62, (@PySem.Obj.mk (@PySem.Value.type "tuple") (@Option.none _) (@PySem.Data.seq (@List.toArray _ []) 0) (@List.toArray _ []))) <| List.cons (nat_lit 64, (@PySem.Obj.mk (@PySem.Value.type "code") (@Option.none _) (@PySem.Data.fields (@List.toArray _ [(@PySem.Value.str (@PySem.Str.ofString "_bytes_from_decode_data") 458), (@PySem.Value.str (@PySem.Str.ofString "_bytes_from_decode_data") 459), (@PySem.Value.str (@PySem.Str.ofString "/claim/cut.py") 460), (@PySem.Value.int (@OfNat.ofNat _ (nat_lit 22) _) 0), (@PySem.Value.int (@OfNat.ofNat _ (nat_lit 1) _) 0), (@PySem.Value.int (@OfNat.ofNat _ (nat_lit 0) _) 0), (@PySem.Value.int (@OfNat.ofNat _ (nat_lit 0) _) 0), (@PySem.Value.int (@OfNat.ofNat _ (nat_lit 3) _) 0), (@PySem.Value.ref 59), (@PySem.Value.bool Bool.true), (@PySem.Value.int (@OfNat.ofNat _ (nat_lit 276) _) 0), (@PySem.Value.ref 60), PySem.Value.none, (@PySem.Value.ref 61), (@PySem.Value.ref 62), (@PySem.Value.ref 63), (@PySem.Value.int (@OfNat.ofNat _ (nat_lit 462) _) 0), (@PySem.Value.int (@OfNat.ofNat _ (nat_lit 22) _) 0), (@PySem.Value.str (@PySem.Str.ofString "/claim/cut.py") 463)])) (@List.toArray _ []))) <| List.cons (nat_lit 65, (@PySem.Obj.mk (@PySem.Value.type "function") (@Option.none _) (@PySem.Data.func (@PySem.FuncData.mk (@PySem.Str.ofString "_bytes_from_decode_data") (@PySem.Str.ofString "_bytes_from_decode_data") p4 (@PySem.FuncBody.stmts b4) c4 3 [] PySem.Value.none PySem.Value.none PySem.Value.none (@PySem.Value.str (@PySem.Str.ofString "cpy313.base64") 455) (@Option.none _) (@PySem.Value.ref 64) PySem.Value.none 0)) (@List.toArray _ []))) <| List.cons (nat_lit 66, (@PySem.Obj.mk (@PySem.Value.type "tuple") (@Option.none _) (@PySem.Data.seq (@List.toArray _ [(@PySem.Value.type "ValueError")]) 0) (@List.toArray _ []))) <| List.cons (nat_lit 73, (@PySem.Obj.mk (@PySem.Value.type "tuple") (@Option.none _) (@PySem.Data.seq (@List.toArray _ []) 0) (@List.toArray _ []))) <| List.cons (nat_lit 74, (@PySem.Obj.mk (@PySem.Value.type "dict") (@Option.none _) (@PySem.Data.dict (@List.toArray _ [(@PySem.DictEntry.mk (@PySem.PyData.keyHash P (@PySem.Str.ofString "__module__")) (@PySem.Value.str (@PySem.Str.ofString "__module__") 474) (@PySem.Value.str (@PySem.Str.ofString "binascii") 465)), (@PySem.DictEntry.mk (@PySem.PyData.keyHash P (@PySem.Str.ofString "__firstlineno__")) (@PySem.Value.str (@PySem.Str.ofString "__firstlineno__") 478) (@PySem.Value.int (@OfNat.ofNat _ (nat_lit 35) _) 477)), (@PySem.DictEntry.mk (@PySem.PyData.keyHash P (@PySem.Str.ofString "__static_attributes__")) (@PySem.Value.str (@PySem.Str.ofString "__static_attributes__") 479) (@PySem.Value.ref 73)), (@PySem.DictEntry.mk (@PySem.PyData.keyHash P (@PySem.Str.ofString "__weakref__")) (@PySem.Value.str (@PySem.Str.ofString "__weakref__") 481) (@PySem.Value.ref 76)), (@PySem.DictEntry.mk (@PySem.PyData.keyHash P (@PySem.Str.ofString "__doc__")) (@PySem.Value.str (@PySem.Str.ofString "__doc__") 482) PySem.Value.none)]) 3) (@List.toArray _ []))) <| List.cons (nat_lit 75, (@PySem.Obj.mk (@PySem.Value.type "type") (@Option.none _) (@PySem.Data.cls (@PySem.ClassData.mk (@PySem.Str.ofString "Error") [(@PySem.Value.type "ValueError")] [(@PySem.Value.ref 75), (@PySem.Value.type "ValueError"), (@PySem.Value.type "Exception"), (@PySem.Value.type "BaseException"), (@PySem.Value.type "object")] 74 (@PySem.Str.ofString "Error") Bool.true [] [] Bool.false (@Option.none _) Bool.false)) (@List.toArray _ [(@Option.some _ (@PySem.Value.ref 66)), (@Option.none _), (@Option.some _ (@PySem.Value.str (@PySem.Str.ofString "Error") 467)), (@Option.some _ (@PySem.Value.str (@PySem.Str.ofString "Error") 475)), (@Option.some _ (@PySem.Value.builtin "ValueError.__new__")), (@Option.some _ (@PySem.Value.bool Bool.true))]))) <| List.cons (nat_lit 76, (@PySem.Obj.mk (@PySem.Value.type "getset_descriptor") (@Option.none _) (@PySem.Data.fields (@List.toArray _ [(@PySem.Value.str (@PySem.Str.ofString "__weakref__") 480), (@PySem.Value.ref 75), (@PySem.Value.builtin "ExceptionGroup.__weakref__"), PySem.Value.none])) (@List.toArray _ []))) <| List.cons (nat_lit 79, (@PySem.Obj.mk (@PySem.Value.type "tuple") (@Option.none _) (@PySem.Data.seq (@List.toArray _ []) 0) (@List.toArray _ []))) <| List.cons (nat_lit 81, (@PySem.Obj.mk (@PySem.Value.type "tuple") (@Option.none _) (@PySem.Data.seq (@List.toArray _ [(@PySem.Value.str (@PySem.Str.ofString "data") 488), (@PySem.Value.str (@PySem.Str.ofString "t") 489)]) 0) (@List.toArray _ []))) <| List.cons (nat_lit 82, (@PySem.Obj.mk (@PySem.Value.type "tuple") (@Option.none _) (@PySem.Data.seq (@List.toArray _ []) 0) (@List.toArray _ []))) <| List.cons (nat_lit 84, (@PySem.Obj.mk (@PySem.Value.type "code") (@Option.none _) (@PySem.Data.fields (@List.toArray _ [(@PySem.Value.str (@PySem.Str.ofString "_ascii_buffer") 485), (@PySem.Value.str (@PySem.Str.ofString "_ascii_buffer") 486), (@PySem.Value.str (@PySem.Str.ofString "/claim/cut.py") 487), (@PySem.Value.int (@OfNat.ofNat _ (nat_lit 37) _) 0), (@PySem.Value.int (@OfNat.ofNat _ (nat_lit 1) _) 0), (@PySem.Value.int (@OfNat.ofNat _ (nat_lit 0) _) 0), (@PySem.Value.int (@OfNat.ofNat _ (nat_lit 0) _) 0), (@PySem.Value.int (@OfNat.ofNat _ (nat_lit 3) _) 0), (@PySem.Value.ref 79), (@PySem.Value.bool Bool.true), (@PySem.Value.int (@OfNat.ofNat _ (nat_lit 276) _) 0), (@PySem.Value.ref 80), PySem.Value.none, (@PySem.Value.ref 81), (@PySem.Value.ref 82), (@PySem.Value.ref 83), (@PySem.Value.int (@OfNat.ofNat _ (nat_lit 490) _) 0), (@PySem.Value.int (@OfNat.ofNat _ (nat_lit 37) _) 0), (@PySem.Value.str (@PySem.Str.ofString "/claim/cut.py") 491)])) (@List.toArray _ []))) <| List.cons (nat_lit 85, (@PySem.Obj.mk (@PySem.Value.type "function") (@Option.none _) (@PySem.Data.func (@PySem.FuncData.mk (@PySem.Str.ofString "_ascii_buffer") (@PySem.Str.ofString "_ascii_buffer") p5 (@PySem.FuncBody.stmts b5) c5 3 [] PySem.Value.none PySem.Value.none PySem.Value.none (@PySem.Value.str (@PySem.Str.ofString "binascii") 465) (@Option.none _) (@PySem.Value.ref 84) PySem.Value.none 0)) (@List.toArray _ []))) <| List.cons (nat_lit 86, (@PySem.Obj.mk (@PySem.Value.type "tuple") (@Option.none _) (@PySem.Data.seq (@List.toArray _ []) 0) (@List.toArray _ []))) <| List.cons (nat_lit 88, (@PySem.Obj.mk (@PySem.Value.type "tuple") (@Option.none _) (@PySem.Data.seq (@List.toArray _ [(@PySem.Value.str (@PySem.Str.ofString "data") 496), (@PySem.Value.str (@PySem.Str.ofString "t") 497)]) 0) (@List.toArray _ []))) <| List.cons (nat_lit 89, (@PySem.Obj.mk (@PySem.Value.type "tuple") (@Option.none _) (@PySem.Data.seq (@List.toArray _ []) 0) (@List.toArray _ []))) <| List.cons (nat_lit 91, (@PySem.Obj.mk (@PySem.Value.type "code") (@Option.none _) (@PySem.Data.fields (@List.toArray _ [(@PySem.Value.str (@PySem.Str.ofString "_buffer") 493), (@PySem.Value.str (@PySem.Str.ofString "_buffer") 494), (@PySem.Value.str (@PySem.Str.ofString "/claim/cut.py") 495), (@PySem.Value.int (@OfNat.ofNat _ (nat_lit 48) _) 0), (@PySem.Value.int (@OfNat.ofNat _ (nat_lit 1) _) 0), (@PySem.Value.int (@OfNat.ofNat _ (nat_lit 0) _) 0), (@PySem.Value.int (@OfNat.ofNat _ (nat_lit 0) _) 0), (@PySem.Value.int (@OfNat.ofNat _ (nat_lit 3) _) 0), (@PySem.Value.ref 86), (@PySem.Value.bool Bool.true), (@PySem.Value.int (@OfNat.ofNat _ (nat_lit 276) _) 0), (@PySem.Value.ref 87), PySem.Value.none, (@PySem.Value.ref 88), (@PySem.Value.ref 89), (@PySem.Value.ref 90), (@PySem.Value.int (@OfNat.ofNat _ (nat_lit 498) _) 0), (@PySem.Value.int (@OfNat.ofNat _ (nat_lit 48) _) 0), (@PySem.Value.str (@PySem.Str.ofString "/claim/cut.py") 499)])) (@List.toArray _ []))) <| List.cons (nat_lit 92, (@PySem.Obj.mk (@PySem.Value.type "function") (@Option.none _) (@PySem.Data.func (@PySem.FuncData.mk (@PySem.Str.ofString "_buffer") (@PySem.Str.ofString "_buffer") p6 (@PySem.FuncBody.stmts b6) c6 3 [] PySem.Value.none PySem.Value.none PySem.Value.none (@PySem.Value.str (@PySem.Str.ofString "binascii") 465) (@Option.none _) (@PySem.Value.ref 91) PySem.Value.none 0)) (@List.toArray _ []))) <| List.cons (nat_lit 93, (@PySem.Obj.mk (@PySem.Value.type "tuple") (@Option.none _) (@PySem.Data.seq (@List.toArray _ []) 0) (@List.toArray _ []))) <| List.cons (nat_lit 95, (@PySem.Obj.mk (@PySem.Value.type "tuple") (@Option.none _) (@PySem.Data.seq (@List.toArray _ [(@PySem.Value.str (@PySem.Str.ofString "x") 504), (@PySem.Value.str (@PySem.Str.ofString "t") 505)]) 0) (@List.toArray _ []))) <| List.cons (nat_lit 96, (@PySem.Obj.mk (@PySem.Value.type "tuple") (@Option.none _) (@PySem.Data.seq (@List.toArray _ []) 0) (@List.toArray _ []))) <| List.cons (nat_lit 98, (@PySem.Obj.mk (@PySem.Value.type "code") (@Option.none _) (@PySem.Data.fields (@List.toArray _ [(@PySem.Value.str (@PySem.Str.ofString "_truth") 501), (@PySem.Value.str (@PySem.Str.ofString "_truth") 502), (@PySem.Value.str (@PySem.Str.ofString "/claim/cut.py") 503), (@PySem.Value.int (@OfNat.ofNat _ (nat_lit 55) _) 0), (@PySem.Value.int (@OfNat.ofNat _ (nat_lit 1) _) 0), (@PySem.Value.int (@OfNat.ofNat _ (nat_lit 0) _) 0), (@PySem.Value.int (@OfNat.ofNat _ (nat_lit 0) _) 0), (@PySem.Value.int (@OfNat.ofNat _ (nat_lit 3) _) 0), (@PySem.Value.ref 93), (@PySem.Value.bool Bool.true), (@PySem.Value.int (@OfNat.ofNat _ (nat_lit 276) _) 0), (@PySem.Value.ref 94), PySem.Value.none, (@PySem.Value.ref 95), (@PySem.Value.ref 96), (@PySem.Value.ref 97), (@PySem.Value.int (@OfNat.ofNat _ (nat_lit 506) _) 0), (@PySem.Value.int (@OfNat.ofNat _ (nat_lit 55) _) 0), (@PySem.Value.str (@PySem.Str.ofString "/claim/cut.py") 507)])) (@List.toArray _ []))) <| List.cons (nat_lit 99, (@PySem.Obj.mk (@PySem.Value.type "function") (@Option.none _) (@PySem.Data.func (@PySem.FuncData.mk (@PySem.Str.ofString "_truth") (@PySem.Str.ofString "_truth") p7 (@PySem.FuncBody.stmts b7) c7 3 [] PySem.Value.none PySem.Value.none PySem.Value.none (@PySem.Value.str (@PySem.Str.ofString "binascii") 465) (@Option.none _) (@PySem.Value.ref 98) PySem.Value.none 0)) (@List.toArray _ []))) <| List.cons (nat_lit 100, (@PySem.Obj.mk (@PySem.Value.type "tuple") (@Option.none _) (@PySem.Data.seq (@List.toArray _ []) 0) (@List.toArray _ []))) <| List.cons (nat_lit 102, (@PySem.Obj.mk (@PySem.Value.type "tuple") (@Option.none _) (@PySem.Data.seq (@List.toArray _ [(@PySem.Value.str (@PySem.Str.ofString "c") 514)]) 0) (@List.toArray _ []))) <| List.cons (nat_lit 103, (@PySem.Obj.mk (@PySem.Value.type "tuple") (@Option.none _) (@PySem.Data.seq (@List.toArray _ []) 0) (@List.toArray _ []))) <| List.cons (nat_lit 105, (@PySem.Obj.mk (@PySem.Value.type "code") (@Option.none _) (@PySem.Data.fields (@List.toArray _ [(@PySem.Value.str (@PySem.Str.ofString "_b64_value") 511), (@PySem.Value.str (@PySem.Str.ofString "_b64_value") 512), (@PySem.Value.str (@PySem.Str.ofString "/claim/cut.py") 513), (@PySem.Value.int (@OfNat.ofNat _ (nat_lit 61) _) 0), (@PySem.Value.int (@OfNat.ofNat _ (nat_lit 1) _) 0), (@PySem.Value.int (@OfNat.ofNat _ (nat_lit 0) _) 0), (@PySem.Value.int (@OfNat.ofNat _ (nat_lit 0) _) 0), (@PySem.Value.int (@OfNat.ofNat _ (nat_lit 3) _) 0), (@PySem.Value.ref 100), (@PySem.Value.bool Bool.true), (@PySem.Value.int (@OfNat.ofNat _ (nat_lit 276) _) 0), (@PySem.Value.ref 101), PySem.Value.none, (@PySem.Value.ref 102), (@PySem.Value.ref 103), (@PySem.Value.ref 104), (@PySem.Value.int (@OfNat.ofNat _ (nat_lit 515) _) 0), (@PySem.Value.int (@OfNat.ofNat _ (nat_lit 61) _) 0), (@PySem.Value.str (@PySem.Str.ofString "/claim/cut.py") 516)])) (@List.toArray _ []))) <| List.cons (nat_lit 106, (@PySem.Obj.mk (@PySem.Value.type "function") (@Option.none _) (@PySem.Data.func (@PySem.FuncData.mk (@PySem.Str.ofString "_b64_value") (@PySem.Str.ofString "_b64_value") p8 (@PySem.FuncBody.stmts b8) c8 3 [] PySem.Value.none PySem.Value.none PySem.Value.none (@PySem.Value.str (@PySem.Str.ofString "binascii") 465) (@Option.none _) (@PySem.Value.ref 105) PySem.Value.none 0)) (@List.toArray _ []))) <| List.cons (nat_lit 107, (@PySem.Obj.mk (@PySem.Value.type "dict") (@Option.none _) (@PySem.Data.dict (@List.toArray _ [(@PySem.DictEntry.mk (@PySem.PyData.keyHash P (@PySem.Str.ofString "strict_mode")) (@PySem.Value.str (@PySem.Str.ofString "strict_mode") 518) (@PySem.Value.bool Bool.false))]) 1) (@List.toArray _ []))) <| List.cons (nat_lit 108, (@PySem.Obj.mk (@PySem.Value.type "tuple") (@Option.none _) (@PySem.Data.seq (@List.toArray _ []) 0) (@List.toArray _ []))) <| List.cons (nat_lit 110, (@PySem.Obj.mk (@PySem.Value.type "tuple") (@Option.none _) (@PySem.Data.seq (@List.toArray _ [(@PySem.Value.str (@PySem.Str.ofString "data") 522), (@PySem.Value.str (@PySem.Str.ofString "strict_mode") 523), (@PySem.Value.str (@PySem.Str.ofString "ascii_data") 524), (@PySem.Value.str (@PySem.Str.ofString "out") 525), (@PySem.Value.str (@PySem.Str.ofString "quad_pos") 526), (@PySem.Value.str (@PySem.Str.ofString "leftchar") 527), (@PySem.Value.str (@PySem.Str.ofString "pads") 528), (@PySem.Value.str (@PySem.Str.ofString "i") 529), (@PySem.Value.str (@PySem.Str.ofString "this_ch") 530)]) 0) (@List.toArray _ []))) <| List.cons (nat_lit 111, (@PySem.Obj.mk (@PySem.Value.type "tuple") (@Option.none _) (@PySem.Data.seq (@List.toArray _ []) 0) (@List.toArray _ []))) <| List.cons (nat_lit 113, (@PySem.Obj.mk (@PySem.Value.type "code") (@Option.none _) (@PySem.Data.fields (@List.toArray _ [(@PySem.Value.str (@PySem.Str.ofString "a2b_base64") 519), (@PySem.Value.str (@PySem.Str.ofString "a2b_base64") 520), (@PySem.Value.str (@PySem.Str.ofString "/claim/cut.py") 521), (@PySem.Value.int (@OfNat.ofNat _ (nat_lit 73) _) 0), (@PySem.Value.int (@OfNat.ofNat _ (nat_lit 1) _) 0), (@PySem.Value.int (@OfNat.ofNat _ (nat_lit 1) _) 0), (@PySem.Value.int (@OfNat.ofNat _ (nat_lit 1) _) 0), (@PySem.Value.int (@OfNat.ofNat _ (nat_lit 3) _) 0), (@PySem.Value.ref 108), (@PySem.Value.bool Bool.true), (@PySem.Value.int (@OfNat.ofNat _ (nat_lit 276) _) 0), (@PySem.Value.ref 109), PySem.Value.none, (@PySem.Value.ref 110), (@PySem.Value.ref 111), (@PySem.Value.ref 112), (@PySem.Value.int (@OfNat.ofNat _ (nat_lit 531) _) 0), (@PySem.Value.int (@OfNat.ofNat _ (nat_lit 73) _) 0), (@PySem.Value.str (@PySem.Str.ofString "/claim/cut.py") 532)])) (@List.toArray _ []))) <| List.cons (nat_lit 114, (@PySem.Obj.mk (@PySem.Value.type "function") (@Option.none _) (@PySem.Data.func (@PySem.FuncData.mk (@PySem.Str.ofString "a2b_base64") (@PySem.Str.ofString "a2b_base64") p9 (@PySem.FuncBody.stmts b9) c9 3 [] PySem.Value.none (@PySem.Value.ref 107) PySem.Value.none (@PySem.Value.str (@PySem.Str.ofString "binascii") 465) (@Option.none _) (@PySem.Value.ref 113) PySem.Value.none 0)) (@List.toArray _ []))) <| List.cons (nat_lit 115, (@PySem.Obj.mk (@PySem.Value.type "dict") (@Option.none _) (@PySem.Data.dict (@List.toArray _ [(@PySem.DictEntry.mk (@PySem.PyData.keyHash P (@PySem.Str.ofString "newline")) (@PySem.Value.str (@PySem.Str.ofString "newline") 534) (@PySem.Value.bool Bool.true))]) 1) (@List.toArray _ []))) <| List.cons (nat_lit 116, (@PySem.Obj.mk (@PySem.Value.type "tuple") (@Option.none _) (@PySem.Data.seq (@List.toArray _ []) 0) (@List.toArray _ []))) <| List.cons (nat_lit 118, (@PySem.Obj.mk (@PySem.Value.type "tuple") (@Option.none _) (@PySem.Data.seq (@List.toArray _ [(@PySem.Value.str (@PySem.Str.ofString "data") 538), (@PySem.Value.str (@PySem.Str.ofString "newline") 539), (@PySem.Value.str (@PySem.Str.ofString "bin_data") 540), (@PySem.Value.str (@PySem.Str.ofString "out") 541), (@PySem.Value.str (@PySem.Str.ofString "leftbits") 542), (@PySem.Value.str (@PySem.Str.ofString "leftchar") 543), (@PySem.Value.str (@PySem.Str.ofString "b") 544)]) 0) (@List.toArray _ []))) <| List.cons (nat_lit 119, (@PySem.Obj.mk (@PySem.Value.type "tuple") (@Option.none _) (@PySem.Data.seq (@List.toArray _ []) 0) (@List.toArray _ []))) <| List.cons (nat_lit 121, (@PySem.Obj.mk (@PySem.Value.type "code") (@Option.none _) (@PySem.Data.fields (@List.toArray _ [(@PySem.Value.str (@PySem.Str.ofString "b2a_base64") 535), (@PySem.Value.str (@PySem.Str.ofString "b2a_base64") 536), (@PySem.Value.str (@PySem.Str.ofString "/claim/cut.py") 537), (@PySem.Value.int (@OfNat.ofNat _ (nat_lit 127) _) 0), (@PySem.Value.int (@OfNat.ofNat _ (nat_lit 1) _) 0), (@PySem.Value.int (@OfNat.ofNat _ (nat_lit 1) _) 0), (@PySem.Value.int (@OfNat.ofNat _ (nat_lit 1) _) 0), (@PySem.Value.int (@OfNat.ofNat _ (nat_lit 3) _) 0), (@PySem.Value.ref 116), (@PySem.Value.bool Bool.true), (@PySem.Value.int (@OfNat.ofNat _ (nat_lit 276) _) 0), (@PySem.Value.ref 117), PySem.Value.none, (@PySem.Value.ref 118), (@PySem.Value.ref 119), (@PySem.Value.ref 120), (@PySem.Value.int (@OfNat.ofNat _ (nat_lit 545) _) 0), (@PySem.Value.int (@OfNat.ofNat _ (nat_lit 127) _) 0), (@PySem.Value.str (@PySem.Str.ofString "/claim/cut.py") 546)])) (@List.toArray _ []))) <| List.cons (nat_lit 122, (@PySem.Obj.mk (@PySem.Value.type "function") (@Option.none _) (@PySem.Data.func (@PySem.FuncData.mk (@PySem.Str.ofString "b2a_base64") (@PySem.Str.ofString "b2a_base64") p10 (@PySem.FuncBody.stmts b10) c10 3 [] PySem.Value.none (@PySem.Value.ref 115) PySem.Value.none (@PySem.Value.str (@PySem.Str.ofString "binascii") 465) (@Option.none _) (@PySem.Value.ref 121) PySem.Value.none 0)) (@List.toArray _ []))) <| List.cons (nat_lit 123, (@PySem.Obj.mk (@PySem.Value.type "tuple") (@Option.none _) (@PySem.Data.seq (@List.toArray _ [PySem.Value.none]) 0) (@List.toArray _ []))) <| List.cons (nat_lit 124, (@PySem.Obj.mk (@PySem.Value.type "tuple") (@Option.none _) (@PySem.Data.seq (@List.toArray _ []) 0) (@List.toArray _ []))) <| List.cons (nat_lit 126, (@PySem.Obj.mk (@PySem.Value.type "tuple") (@Option.none _) (@PySem.Data.seq (@List.toArray _ [(@PySem.Value.str (@PySem.Str.ofString "s") 553), (@PySem.Value.str (@PySem.Str.ofString "altchars") 554), (@PySem.Value.str (@PySem.Str.ofString "encoded") 555)]) 0) (@List.toArray _ []))) <| List.cons (nat_lit 127, (@PySem.Obj.mk (@PySem.Value.type "tuple") (@Option.none _) (@PySem.Data.seq (@List.toArray _ []) 0) (@List.toArray _ []))) <| List.cons (nat_lit 129, (@PySem.Obj.mk (@PySem.Value.type "code") (@Option.none _) (@PySem.Data.fields (@List.toArray _ [(@PySem.Value.str (@PySem.Str.ofString "b64encode") 550), (@PySem.Value.str (@PySem.Str.ofString "b64encode") 551), (@PySem.Value.str (@PySem.Str.ofString "/claim/cut.py") 552), (@PySem.Value.int (@OfNat.ofNat _ (nat_lit 150) _) 0), (@PySem.Value.int (@OfNat.ofNat _ (nat_lit 2) _) 0), (@PySem.Value.int (@OfNat.ofNat _ (nat_lit 0) _) 0), (@PySem.Value.int (@OfNat.ofNat _ (nat_lit 0) _) 0), (@PySem.Value.int (@OfNat.ofNat _ (nat_lit 3) _) 0), (@PySem.Value.ref 124), (@PySem.Value.bool Bool.true), (@PySem.Value.int (@OfNat.ofNat _ (nat_lit 276) _) 0), (@PySem.Value.ref 125), PySem.Value.none, (@PySem.Value.ref 126), (@PySem.Value.ref 127), (@PySem.Value.ref 128), (@PySem.Value.int (@OfNat.ofNat _ (nat_lit 556) _) 0), (@PySem.Value.int (@OfNat.ofNat _ (nat_lit 150) _) 0), (@PySem.Value.str (@PySem.Str.ofString "/claim/cut.py") 557)])) (@List.toArray _ []))) <| List.cons (nat_lit 130, (@PySem.Obj.mk (@PySem.Value.type "function") (@Option.none _) (@PySem.Data.func (@PySem.FuncData.mk (@PySem.Str.ofString "b64encode") (@PySem.Str.ofString "b64encode") p11 (@PySem.FuncBody.stmts b11) c11 3 [] (@PySem.Value.ref 123) PySem.Value.none PySem.Value.none (@PySem.Value.str (@PySem.Str.ofString "cpy313.base64") 548) (@Option.none _) (@PySem.Value.ref 129) PySem.Value.none 0)) (@List.toArray _ []))) <| List.cons (nat_lit 131, (@PySem.Obj.mk (@PySem.Value.type "tuple") (@Option.none _) (@PySem.Data.seq (@List.toArray _ [PySem.Value.none, (@PySem.Value.bool Bool.false)]) 0) (@List.toArray _ []))) <| List.cons (nat_lit 132, (@PySem.Obj.mk (@PySem.Value.type "tuple") (@Option.none _) (@PySem.Data.seq (@List.toArray _ []) 0) (@List.toArray _ []))) <| List.cons (nat_lit 134, (@PySem.Obj.mk (@PySem.Value.type "tuple") (@Option.none _) (@PySem.Data.seq (@List.toArray _ [(@PySem.Value.str (@PySem.Str.ofString "s") 562), (@PySem.Value.str (@PySem.Str.ofString "altchars") 563), (@PySem.Value.str (@PySem.Str.ofString "validate") 564)]) 0) (@List.toArray _ []))) <| List.cons (nat_lit 135, (@PySem.Obj.mk (@PySem.Value.type "tuple") (@Option.none _) (@PySem.Data.seq (@List.toArray _ []) 0) (@List.toArray _ []))) <| List.cons (nat_lit 137, (@PySem.Obj.mk (@PySem.Value.type "code") (@Option.none _) (@PySem.Data.fields (@List.toArray _ [(@PySem.Value.str (@PySem.Str.ofString "b64decode") 559), (@PySem.Value.str (@PySem.Str.ofString "b64decode") 560), (@PySem.Value.str (@PySem.Str.ofString "/claim/cut.py") 561), (@PySem.Value.int (@OfNat.ofNat _ (nat_lit 156) _) 0), (@PySem.Value.int (@OfNat.ofNat _ (nat_lit 3) _) 0), (@PySem.Value.int (@OfNat.ofNat _ (nat_lit 0) _) 0), (@PySem.Value.int (@OfNat.ofNat _ (nat_lit 0) _) 0), (@PySem.Value.int (@OfNat.ofNat _ (nat_lit 3) _) 0), (@PySem.Value.ref 132), (@PySem.Value.bool Bool.true), (@PySem.Value.int (@OfNat.ofNat _ (nat_lit 276) _) 0), (@PySem.Value.ref 133), PySem.Value.none, (@PySem.Value.ref 134), (@PySem.Value.ref 135), (@PySem.Value.ref 136), (@PySem.Value.int (@OfNat.ofNat _ (nat_lit 565) _) 0), (@PySem.Value.int (@OfNat.ofNat _ (nat_lit 156) _) 0), (@PySem.Value.str (@PySem.Str.ofString "/claim/cut.py") 566)])) (@List.toArray _ []))) <| List.cons (nat_lit 138, (@PySem.Obj.mk (@PySem.Value.type "function") (@Option.none _) (@PySem.Data.func (@PySem.FuncData.mk (@PySem.Str.ofString "b64decode") (@PySem.Str.ofString "b64decode") p12 (@PySem.FuncBody.stmts b12) c12 3 [] (@PySem.Value.ref 131) PySem.Value.none PySem.Value.none (@PySem.Value.str (@PySem.Str.ofString "cpy313.base64") 548) (@Option.none _) (@PySem.Value.ref 137) PySem.Value.none 0)) (@List.toArray _ []))) <| List.cons (nat_lit 139, (@PySem.Obj.mk (@PySem.Value.type "tuple") (@Option.none _) (@PySem.Data.seq (@List.toArray _ []) 0) (@List.toArray _ []))) <| List.cons (nat_lit 141, (@PySem.Obj.mk (@PySem.Value.type "tuple") (@Option.none _) (@PySem.Data.seq (@List.toArray _ [(@PySem.Value.str (@PySem.Str.ofString "s") 581)]) 0) (@List.toArray _ []))) <| List.cons (nat_lit 142, (@PySem.Obj.mk (@PySem.Value.type "tuple") (@Option.none _) (@PySem.Data.seq (@List.toArray _ []) 0) (@List.toArray _ []))) <| List.cons (nat_lit 144, (@PySem.Obj.mk (@PySem.Value.type "code") (@Option.none _) (@PySem.Data.fields (@List.toArray _ [(@PySem.Value.str (@PySem.Str.ofString "urlsafe_b64encode") 578), (@PySem.Value.str (@PySem.Str.ofString "urlsafe_b64encode") 579), (@PySem.Value.str (@PySem.Str.ofString "/claim/cut.py") 580), (@PySem.Value.int (@OfNat.ofNat _ (nat_lit 165) _) 0), (@PySem.Value.int (@OfNat.ofNat _ (nat_lit 1) _) 0), (@PySem.Value.int (@OfNat.ofNat _ (nat_lit 0) _) 0), (@PySem.Value.int (@OfNat.ofNat _ (nat_lit 0) _) 0), (@PySem.Value.int (@OfNat.ofNat _ (nat_lit 3) _) 0), (@PySem.Value.ref 139), (@PySem.Value.bool Bool.true), (@PySem.Value.int (@OfNat.ofNat _ (nat_lit 276) _) 0), (@PySem.Value.ref 140), PySem.Value.none, (@PySem.Value.ref 141), (@PySem.Value.ref 142), (@PySem.Value.ref 143), (@PySem.Value.int (@OfNat.ofNat _ (nat_lit 582) _) 0), (@PySem.Value.int (@OfNat.ofNat _ (nat_lit 165) _) 0), (@PySem.Value.str (@PySem.Str.ofString "/claim/cut.py") 583)])) (@List.toArray _ []))) <| List.cons (nat_lit 145, (@PySem.Obj.mk (@PySem.Value.type "function") (@Option.none _) (@PySem.Data.func (@PySem.FuncData.mk (@PySem.Str.ofString "urlsafe_b64encode") (@PySem.Str.ofString "urlsafe_b64encode") p13 (@PySem.FuncBody.stmts b13) c13 3 [] PySem.Value.none PySem.Value.none PySem.Value.none (@PySem.Value.str (@PySem.Str.ofString "cpy313.base64") 548) (@Option.none _) (@PySem.Value.ref 144) PySem.Value.none 0)) (@List.toArray _ []))) <| List.cons (nat_lit 146, (@PySem.Obj.mk (@PySem.Value.type "tuple") (@Option.none _) (@PySem.Data.seq (@List.toArray _ []) 0) (@List.toArray _ []))) <| List.cons (nat_lit 148, (@PySem.Obj.mk (@PySem.Value.type "tuple") (@Option.none _) (@PySem.Data.seq (@List.toArray _ [(@PySem.Value.str (@PySem.Str.ofString "s") 588)]) 0) (@List.toArray _ []))) <| List.cons (nat_lit 149, (@PySem.Obj.mk (@PySem.Value.type "tuple") (@Option.none _) (@PySem.Data.seq (@List.toArray _ []) 0) (@List.toArray _ []))) <| List.cons (nat_lit 151, (@PySem.Obj.mk (@PySem.Value.type "code") (@Option.none _) (@PySem.Data.fields (@List.toArray _ [(@PySem.Value.str (@PySem.Str.ofString "urlsafe_b64decode") 585), (@PySem.Value.str (@PySem.Str.ofString "urlsafe_b64decode") 586), (@PySem.Value.str (@PySem.Str.ofString "/claim/cut.py") 587), (@PySem.Value.int (@OfNat.ofNat _ (nat_lit 167) _) 0), (@PySem.Value.int (@OfNat.ofNat _ (nat_lit 1) _) 0), (@PySem.Value.int (@OfNat.ofNat _ (nat_lit 0) _) 0), (@PySem.Value.int (@OfNat.ofNat _ (nat_lit 0) _) 0), (@PySem.Value.int (@OfNat.ofNat _ (nat_lit 3) _) 0), (@PySem.Value.ref 146), (@PySem.Value.bool Bool.true), (@PySem.Value.int (@OfNat.ofNat _ (nat_lit 276) _) 0), (@PySem.Value.ref 147), PySem.Value.none, (@PySem.Value.ref 148), (@PySem.Value.ref 149), (@PySem.Value.ref 150), (@PySem.Value.int (@OfNat.ofNat _ (nat_lit 589) _) 0), (@PySem.Value.int (@OfNat.ofNat _ (nat_lit 167) _) 0), (@PySem.Value.str (@PySem.Str.ofString "/claim/cut.py") 590)])) (@List.toArray _ []))) <| List.cons (nat_lit 152, (@PySem.Obj.mk (@PySem.Value.type "function") (@Option.none _) (@PySem.Data.func (@PySem.FuncData.mk (@PySem.Str.ofString "urlsafe_b64decode") (@PySem.Str.ofString "urlsafe_b64decode") p14 (@PySem.FuncBody.stmts b14) c14 3 [] PySem.Value.none PySem.Value.none PySem.Value.none (@PySem.Value.str (@PySem.Str.ofString "cpy313.base64") 548) (@Option.none _) (@PySem.Value.ref 151) PySem.Value.none 0)) (@List.toArray _ []))) <| List.cons (nat_lit 156, (@PySem.Obj.mk (@PySem.Value.type "tuple") (@Option.none _) (@PySem.Data.seq (@List.toArray _ [(@PySem.Value.int (@OfNat.ofNat _ (nat_lit 14) _) 0), (@PySem.Value.int (@OfNat.ofNat _ (nat_lit 14) _) 0), (@PySem.Value.int (@OfNat.ofNat _ (nat_lit 4) _) 0), (@PySem.Value.int (@OfNat.ofNat _ (nat_lit 1) _) 0), (@PySem.Value.int (@OfNat.ofNat _ (nat_lit 1) _) 0), (@PySem.Value.int (@OfNat.ofNat _ (nat_lit 9) _) 0), (@PySem.Value.int (@OfNat.ofNat _ (nat_lit 0) _) 0), (@PySem.Value.int (@OfNat.ofNat _ (nat_lit 64) _) 0), (@PySem.Value.int (@OfNat.ofNat _ (nat_lit 0) _) 0), (@PySem.Value.int (@OfNat.ofNat _ (nat_lit 1342177280) _) 0), (@PySem.Value.int (@OfNat.ofNat _ (nat_lit 0) _) 0), (@PySem.Value.int (@OfNat.ofNat _ (nat_lit 0) _) 0), (@PySem.Value.int (@OfNat.ofNat _ (nat_lit 0) _) 0), (@PySem.Value.int (@OfNat.ofNat _ (nat_lit 0) _) 0), (@PySem.Value.int (@OfNat.ofNat _ (nat_lit 0) _) 0), (@PySem.Value.int (@OfNat.ofNat _ (nat_lit 17) _) 0), (@PySem.Value.int (@OfNat.ofNat _ (nat_lit 0) _) 0), (@PySem.Value.int (@OfNat.ofNat _ (nat_lit 13) _) 0), (@PySem.Value.int (@OfNat.ofNat _ (nat_lit 11) _) 0), (@PySem.Value.int (@OfNat.ofNat _ (nat_lit 9) _) 0), (@PySem.Value.int (@OfNat.ofNat _ (nat_lit 0) _) 0), (@PySem.Value.int (@OfNat.ofNat _ (nat_lit 64) _) 0), (@PySem.Value.int (@OfNat.ofNat _ (nat_lit 0) _) 0), (@PySem.Value.int (@OfNat.ofNat _ (nat_lit 1342177280) _) 0), (@PySem.Value.int (@OfNat.ofNat _ (nat_lit 0) _) 0), (@PySem.Value.int (@OfNat.ofNat _ (nat_lit 0) _) 0), (@PySem.Value.int (@OfNat.ofNat _ (nat_lit 0) _) 0), (@PySem.Value.int (@OfNat.ofNat _ (nat_lit 0) _) 0), (@PySem.Value.int (@OfNat.ofNat _ (nat_lit 0) _) 0), (@PySem.Value.int (@OfNat.ofNat _ (nat_lit 17) _) 0), (@PySem.Value.int (@OfNat.ofNat _ (nat_lit 1) _) 0), (@PySem.Value.int (@OfNat.ofNat _ (nat_lit 1) _) 0)]) 0) (@List.toArray _ []))) <| List.cons (nat_lit 157, (@PySem.Obj.mk (@PySem.Value.type "re.Pattern") (@Option.none _) (@PySem.Data.fields (@List.toArray _ [(@PySem.Value.str (@PySem.Str.ofString "([&~|])") 595), (@PySem.Value.int (@OfNat.ofNat _ (nat_lit 32) _) 630), (@PySem.Value.int (@OfNat.ofNat _ (nat_lit 1) _) 0), PySem.Value.none, PySem.Value.none, (@PySem.Value.ref 156), (@PySem.Value.int (@OfNat.ofNat _ (nat_lit 0) _) 0)])) (@List.toArray _ []))) <| List.cons (nat_lit 158, (@PySem.Obj.mk (@PySem.Value.type "tuple") (@Option.none _) (@PySem.Data.seq (@List.toArray _ []) 0) (@List.toArray _ []))) <| List.cons (nat_lit 160, (@PySem.Obj.mk (@PySem.Value.type "tuple") (@Option.none _) (@PySem.Data.seq (@List.toArray _ [(@PySem.Value.str (@PySem.Str.ofString "pat") 635), (@PySem.Value.str (@PySem.Str.ofString "STAR") 636), (@PySem.Value.str (@PySem.Str.ofString "parts") 637)]) 0) (@List.toArray _ []))) <| List.cons (nat_lit 161, (@PySem.Obj.mk (@PySem.Value.type "tuple") (@Option.none _) (@PySem.Data.seq (@List.toArray _ []) 0) (@List.toArray _ []))) <| List.cons (nat_lit 163, (@PySem.Obj.mk (@PySem.Value.type "code") (@Option.none _) (@PySem.Data.fields (@List.toArray _ [(@PySem.Value.str (@PySem.Str.ofString "translate") 632), (@PySem.Value.str (@PySem.Str.ofString "translate") 633), (@PySem.Value.str (@PySem.Str.ofString "/claim/cut.py") 634), (@PySem.Value.int (@OfNat.ofNat _ (nat_lit 173) _) 0), (@PySem.Value.int (@OfNat.ofNat _ (nat_lit 1) _) 0), (@PySem.Value.int (@OfNat.ofNat _ (nat_lit 0) _) 0), (@PySem.Value.int (@OfNat.ofNat _ (nat_lit 0) _) 0), (@PySem.Value.int (@OfNat.ofNat _ (nat_lit 3) _) 0), (@PySem.Value.ref 158), (@PySem.Value.bool Bool.true), (@PySem.Value.int (@OfNat.ofNat _ (nat_lit 276) _) 0), (@PySem.Value.ref 159), PySem.Value.none, (@PySem.Value.ref 160), (@PySem.Value.ref 161), (@PySem.Value.ref 162), (@PySem.Value.int (@OfNat.ofNat _ (nat_lit 638) _) 0), (@PySem.Value.int (@OfNat.ofNat _ (nat_lit 173) _) 0), (@PySem.Value.str (@PySem.Str.ofString "/claim/cut.py") 639)])) (@List.toArray _ []))) <| List.cons (nat_lit 164, (@PySem.Obj.mk (@PySem.Value.type "function") (@Option.none _) (@PySem.Data.func (@PySem.FuncData.mk (@PySem.Str.ofString "translate") (@PySem.Str.ofString "translate") p15 (@PySem.FuncBody.stmts b15) c15 3 [] PySem.Value.none PySem.Value.none PySem.Value.none (@PySem.Value.str (@PySem.Str.ofString "cpy313.fnmatch") 592) (@Option.none _) (@PySem.Value.ref 163) PySem.Value.none 0)) (@List.toArray _ []))) <| List.cons (nat_lit 165, (@PySem.Obj.mk (@PySem.Value.type "tuple") (@Option.none _) (@PySem.Data.seq (@List.toArray _ []) 0) (@List.toArray _ []))) <| List.cons (nat_lit 167, (@PySem.Obj.mk (@PySem.Value.type "tuple") (@Option.none _) (@PySem.Data.seq (@List.toArray _ [(@PySem.Value.str (@PySem.Str.ofString "pat") 644), (@PySem.Value.str (@PySem.Str.ofString "STAR") 645), (@PySem.Value.str (@PySem.Str.ofString "QUESTION_MARK") 646), (@PySem.Value.str (@PySem.Str.ofString "res") 647), (@PySem.Value.str (@PySem.Str.ofString "add") 648), (@PySem.Value.str (@PySem.Str.ofString "i") 649), (@PySem.Value.str (@PySem.Str.ofString "n") 650), (@PySem.Value.str (@PySem.Str.ofString "c") 651), (@PySem.Value.str (@PySem.Str.ofString "j") 652), (@PySem.Value.str (@PySem.Str.ofString "stuff") 653), (@PySem.Value.str (@PySem.Str.ofString "chunks") 654), (@PySem.Value.str (@PySem.Str.ofString "k") 655), (@PySem.Value.str (@PySem.Str.ofString "chunk") 656)]) 0) (@List.toArray _ []))) <| List.cons (nat_lit 168, (@PySem.Obj.mk (@PySem.Value.type "tuple") (@Option.none _) (@PySem.Data.seq (@List.toArray _ []) 0) (@List.toArray _ []))) <| List.cons (nat_lit 170, (@PySem.Obj.mk (@PySem.Value.type "code") (@Option.none _) (@PySem.Data.fields (@List.toArray _ [(@PySem.Value.str (@PySem.Str.ofString "_translate") 641), (@PySem.Value.str (@PySem.Str.ofString "_translate") 642), (@PySem.Value.str (@PySem.Str.ofString "/claim/cut.py") 643), (@PySem.Value.int (@OfNat.ofNat _ (nat_lit 177) _) 0), (@PySem.Value.int (@OfNat.ofNat _ (nat_lit 3) _) 0), (@PySem.Value.int (@OfNat.ofNat _ (nat_lit 0) _) 0), (@PySem.Value.int (@OfNat.ofNat _ (nat_lit 0) _) 0), (@PySem.Value.int (@OfNat.ofNat _ (nat_lit 3) _) 0), (@PySem.Value.ref 165), (@PySem.Value.bool Bool.true), (@PySem.Value.int (@OfNat.ofNat _ (nat_lit 276) _) 0), (@PySem.Value.ref 166), PySem.Value.none, (@PySem.Value.ref 167), (@PySem.Value.ref 168), (@PySem.Value.ref 169), (@PySem.Value.int (@OfNat.ofNat _ (nat_lit 657) _) 0), (@PySem.Value.int (@OfNat.ofNat _ (nat_lit 177) _) 0), (@PySem.Value.str (@PySem.Str.ofString "/claim/cut.py") 658)])) (@List.toArray _ []))) <| List.cons (nat_lit 171, (@PySem.Obj.mk (@PySem.Value.type "function") (@Option.none _) (@PySem.Data.func (@PySem.FuncData.mk (@PySem.Str.ofString "_translate") (@PySem.Str.ofString "_translate") p16 (@PySem.FuncBody.stmts b16) c16 3 [] PySem.Value.none PySem.Value.none PySem.Value.none (@PySem.Value.str (@PySem.Str.ofString "cpy313.fnmatch") 592) (@Option.none _) (@PySem.Value.ref 170) PySem.Value.none 0)) (@List.toArray _ []))) <| List.cons (nat_lit 172, (@PySem.Obj.mk (@PySem.Value.type "tuple") (@Option.none _) (@PySem.Data.seq (@List.toArray _ []) 0) (@List.toArray _ []))) <| List.cons (nat_lit 174, (@PySem.Obj.mk (@PySem.Value.type "tuple") (@Option.none _) (@PySem.Data.seq (@List.toArray _ [(@PySem.Value.str (@PySem.Str.ofString "inp") 663), (@PySem.Value.str (@PySem.Str.ofString "STAR") 664), (@PySem.Value.str (@PySem.Str.ofString "res") 665), (@PySem.Value.str (@PySem.Str.ofString "add") 666), (@PySem.Value.str (@PySem.Str.ofString "i") 667), (@PySem.Value.str (@PySem.Str.ofString "n") 668), (@PySem.Value.str (@PySem.Str.ofString "fixed") 669)]) 0) (@List.toArray _ []))) <| List.cons (nat_lit 175, (@PySem.Obj.mk (@PySem.Value.type "tuple") (@Option.none _) (@PySem.Data.seq (@List.toArray _ []) 0) (@List.toArray _ []))) <| List.cons (nat_lit 177, (@PySem.Obj.mk (@PySem.Value.type "code") (@Option.none _) (@PySem.Data.fields (@List.toArray _ [(@PySem.Value.str (@PySem.Str.ofString "_join_translated_parts") 660), (@PySem.Value.str (@PySem.Str.ofString "_join_translated_parts") 661), (@PySem.Value.str (@PySem.Str.ofString "/claim/cut.py") 662), (@PySem.Value.int (@OfNat.ofNat _ (nat_lit 239) _) 0), (@PySem.Value.int (@OfNat.ofNat _ (nat_lit 2) _) 0), (@PySem.Value.int (@OfNat.ofNat _ (nat_lit 0) _) 0), (@PySem.Value.int (@OfNat.ofNat _ (nat_lit 0) _) 0), (@PySem.Value.int (@OfNat.ofNat _ (nat_lit 3) _) 0), (@PySem.Value.ref 172), (@PySem.Value.bool Bool.true), (@PySem.Value.int (@OfNat.ofNat _ (nat_lit 276) _) 0), (@PySem.Value.ref 173), PySem.Value.none, (@PySem.Value.ref 174), (@PySem.Value.ref 175), (@PySem.Value.ref 176), (@PySem.Value.int (@OfNat.ofNat _ (nat_lit 670) _) 0), (@PySem.Value.int (@OfNat.ofNat _ (nat_lit 239) _) 0), (@PySem.Value.str (@PySem.Str.ofString "/claim/cut.py") 671)])) (@List.toArray _ []))) <| List.cons (nat_lit 178, (@PySem.Obj.mk (@PySem.Value.type "function") (@Option.none _) (@PySem.Data.func (@PySem.FuncData.mk (@PySem.Str.ofString "_join_translated_parts") (@PySem.Str.ofString "_join_translated_parts") p17 (@PySem.FuncBody.stmts b17) c17 3 [] PySem.Value.none PySem.Value.none PySem.Value.none (@PySem.Value.str (@PySem.Str.ofString "cpy313.fnmatch") 592) (@Option.none _) (@PySem.Value.ref 177) PySem.Value.none 0)) (@List.toArray _ []))) <| List.cons (nat_lit 179, (@PySem.Obj.mk (@PySem.Value.type "tuple") (@Option.none _) (@PySem.Data.seq (@List.toArray _ []) 0) (@List.toArray _ []))) <| List.cons (nat_lit 182, (@PySem.Obj.mk (@PySem.Value.type "code") (@Option.none _) (@PySem.Data.fields (@List.toArray _ [(@PySem.Value.str (@PySem.Str.ofString "_law_octets") 675), (@PySem.Value.str (@PySem.Str.ofString "_law_octets") 676), (@PySem.Value.str (@PySem.Str.ofString "/claim/cut.py") 677), (@PySem.Value.int (@OfNat.ofNat _ (nat_lit 267) _) 0), (@PySem.Value.int (@OfNat.ofNat _ (nat_lit 1) _) 0), (@PySem.Value.int (@OfNat.ofNat _ (nat_lit 0) _) 0), (@PySem.Value.int (@OfNat.ofNat _ (nat_lit 0) _) 0), (@PySem.Value.int (@OfNat.ofNat _ (nat_lit 3) _) 0), (@PySem.Value.ref 179), (@PySem.Value.bool Bool.true), (@PySem.Value.int (@OfNat.ofNat _ (nat_lit 276) _) 0), (@PySem.Value.ref 180), PySem.Value.none, PySem.Value.none, PySem.Value.none, (@PySem.Value.ref 181), (@PySem.Value.int (@OfNat.ofNat _ (nat_lit 678) _) 0), (@PySem.Value.int (@OfNat.ofNat _ (nat_lit 267) _) 0), (@PySem.Value.str (@PySem.Str.ofString "/claim/cut.py") 679)])) (@List.toArray _ []))) <| List.cons (nat_lit 183, (@PySem.Obj.mk (@PySem.Value.type "function") (@Option.none _) (@PySem.Data.func (@PySem.FuncData.mk (@PySem.Str.ofString "_law_octets") (@PySem.Str.ofString "_law_octets") p18 (@PySem.FuncBody.stmts b18) c18 3 [] PySem.Value.none PySem.Value.none PySem.Value.none (@PySem.Value.str (@PySem.Str.ofString "law_kq0056_01") 673) (@Option.none _) (@PySem.Value.ref 182) PySem.Value.none 0)) (@List.toArray _ []))) <| List.cons (nat_lit 184, (@PySem.Obj.mk (@PySem.Value.type "tuple") (@Option.none _) (@PySem.Data.seq (@List.toArray _ []) 0) (@List.toArray _ []))) <| List.cons (nat_lit 186, (@PySem.Obj.mk (@PySem.Value.type "tuple") (@Option.none _) (@PySem.Data.seq (@List.toArray _ [(@PySem.Value.str (@PySem.Str.ofString "row") 684), (@PySem.Value.str (@PySem.Str.ofString "k") 685)]) 0) (@List.toArray _ []))) <| List.cons (nat_lit 187, (@PySem.Obj.mk (@PySem.Value.type "tuple") (@Option.none _) (@PySem.Data.seq (@List.toArray _ []) 0) (@List.toArray _ []))) <| List.cons (nat_lit 189, (@PySem.Obj.mk (@PySem.Value.type "code") (@Option.none _) (@PySem.Data.fields (@List.toArray _ [(@PySem.Value.str (@PySem.Str.ofString "_law_written") 681), (@PySem.Value.str (@PySem.Str.ofString "_law_written") 682), (@PySem.Value.str (@PySem.Str.ofString "/claim/cut.py") 683), (@PySem.Value.int (@OfNat.ofNat _ (nat_lit 269) _) 0), (@PySem.Value.int (@OfNat.ofNat _ (nat_lit 2) _) 0), (@PySem.Value.int (@OfNat.ofNat _ (nat_lit 0) _) 0), (@PySem.Value.int (@OfNat.ofNat _ (nat_lit 0) _) 0), (@PySem.Value.int (@OfNat.ofNat _ (nat_lit 3) _) 0), (@PySem.Value.ref 184), (@PySem.Value.bool Bool.true), (@PySem.Value.int (@OfNat.ofNat _ (nat_lit 276) _) 0), (@PySem.Value.ref 185), PySem.Value.none, (@PySem.Value.ref 186), (@PySem.Value.ref 187), (@PySem.Value.ref 188), (@PySem.Value.int (@OfNat.ofNat _ (nat_lit 686) _) 0), (@PySem.Value.int (@OfNat.ofNat _ (nat_lit 269) _) 0), (@PySem.Value.str (@PySem.Str.ofString "/claim/cut.py") 687)])) (@List.toArray _ []))) <| List.cons (nat_lit 190, (@PySem.Obj.mk (@PySem.Value.type "function") (@Option.none _) (@PySem.Data.func (@PySem.FuncData.mk (@PySem.Str.ofString "_law_written") (@PySem.Str.ofString "_law_written") p19 (@PySem.FuncBody.stmts b19) c19 3 [] PySem.Value.none PySem.Value.none PySem.Value.none (@PySem.Value.str (@PySem.Str.ofString "law_kq0056_01") 673) (@Option.none _) (@PySem.Value.ref 189) PySem.Value.none 0)) (@List.toArray _ []))) <| List.cons (nat_lit 191, (@PySem.Obj.mk (@PySem.Value.type "tuple") (@Option.none _) (@PySem.Data.seq (@List.toArray _ []) 0) (@List.toArray _ []))) <| List.cons (nat_lit 194, (@PySem.Obj.mk (@PySem.Value.type "code") (@Option.none _) (@PySem.Data.fields (@List.toArray _ [(@PySem.Value.str (@PySem.Str.ofString "_law_sixes") 689), (@PySem.Value.str (@PySem.Str.ofString "_law_sixes") 690), (@PySem.Value.str (@PySem.Str.ofString "/claim/cut.py") 691), (@PySem.Value.int (@OfNat.ofNat _ (nat_lit 273) _) 0), (@PySem.Value.int (@OfNat.ofNat _ (nat_lit 2) _) 0), (@PySem.Value.int (@OfNat.ofNat _ (nat_lit 0) _) 0), (@PySem.Value.int (@OfNat.ofNat _ (nat_lit 0) _) 0), (@PySem.Value.int (@OfNat.ofNat _ (nat_lit 3) _) 0), (@PySem.Value.ref 191), (@PySem.Value.bool Bool.true), (@PySem.Value.int (@OfNat.ofNat _ (nat_lit 276) _) 0), (@PySem.Value.ref 192), PySem.Value.none, PySem.Value.none, PySem.Value.none, (@PySem.Value.ref 193), (@PySem.Value.int (@OfNat.ofNat _ (nat_lit 692) _) 0), (@PySem.Value.int (@OfNat.ofNat _ (nat_lit 273) _) 0), (@PySem.Value.str (@PySem.Str.ofString "/claim/cut.py") 693)])) (@List.toArray _ []))) <| List.cons (nat_lit 195, (@PySem.Obj.mk (@PySem.Value.type "function") (@Option.none _) (@PySem.Data.func (@PySem.FuncData.mk (@PySem.Str.ofString "_law_sixes") (@PySem.Str.ofString "_law_sixes") p20 (@PySem.FuncBody.stmts b20) c20 3 [] PySem.Value.none PySem.Value.none PySem.Value.none (@PySem.Value.str (@PySem.Str.ofString "law_kq0056_01") 673) (@Option.none _) (@PySem.Value.ref 194) PySem.Value.none 0)) (@List.toArray _ []))) <| List.cons (nat_lit 196, (@PySem.Obj.mk (@PySem.Value.type "tuple") (@Option.none _) (@PySem.Data.seq (@List.toArray _ []) 0) (@List.toArray _ []))) <| List.cons (nat_lit 198, (@PySem.Obj.mk (@PySem.Value.type "tuple") (@Option.none _) (@PySem.Data.seq (@List.toArray _ [(@PySem.Value.str (@PySem.Str.ofString "word") 698), (@PySem.Value.str (@PySem.Str.ofString "k") 699)]) 0) (@List.toArray _ []))) <| List.cons (nat_lit 199, (@PySem.Obj.mk (@PySem.Value.type "tuple") (@Option.none _) (@PySem.Data.seq (@List.toArray _ []) 0) (@List.toArray _ []))) <| List.cons (nat_lit 201, (@PySem.Obj.mk (@PySem.Value.type "code") (@Option.none _) (@PySem.Data.fields (@List.toArray _ [(@PySem.Value.str (@PySem.Str.ofString "_law_back") 695), (@PySem.Value.str (@PySem.Str.ofString "_law_back") 696), (@PySem.Value.str (@PySem.Str.ofString "/claim/cut.py") 697), (@PySem.Value.int (@OfNat.ofNat _ (nat_lit 280) _) 0), (@PySem.Value.int (@OfNat.ofNat _ (nat_lit 2) _) 0), (@PySem.Value.int (@OfNat.ofNat _ (nat_lit 0) _) 0), (@PySem.Value.int (@OfNat.ofNat _ (nat_lit 0) _) 0), (@PySem.Value.int (@OfNat.ofNat _ (nat_lit 3) _) 0), (@PySem.Value.ref 196), (@PySem.Value.bool Bool.true), (@PySem.Value.int (@OfNat.ofNat _ (nat_lit 276) _) 0), (@PySem.Value.ref 197), PySem.Value.none, (@PySem.Value.ref 198), (@PySem.Value.ref 199), (@PySem.Value.ref 200), (@PySem.Value.int (@OfNat.ofNat _ (nat_lit 700) _) 0), (@PySem.Value.int (@OfNat.ofNat _ (nat_lit 280) _) 0), (@PySem.Value.str (@PySem.Str.ofString "/claim/cut.py") 701)])) (@List.toArray _ []))) <| List.cons (nat_lit 202, (@PySem.Obj.mk (@PySem.Value.type "function") (@Option.none _) (@PySem.Data.func (@PySem.FuncData.mk (@PySem.Str.ofString "_law_back") (@PySem.Str.ofString "_law_back") p21 (@PySem.FuncBody.stmts b21) c21 3 [] PySem.Value.none PySem.Value.none PySem.Value.none (@PySem.Value.str (@PySem.Str.ofString "law_kq0056_01") 673) (@Option.none _) (@PySem.Value.ref 201) PySem.Value.none 0)) (@List.toArray _ []))) <| List.cons (nat_lit 203, (@PySem.Obj.mk (@PySem.Value.type "tuple") (@Option.none _) (@PySem.Data.seq (@List.toArray _ []) 0) (@List.toArray _ []))) <| List.cons (nat_lit 206, (@PySem.Obj.mk (@PySem.Value.type "code") (@Option.none _) (@PySem.Data.fields (@List.toArray _ [(@PySem.Value.str (@PySem.Str.ofString "_law_escaped") 703), (@PySem.Value.str (@PySem.Str.ofString "_law_escaped") 704), (@PySem.Value.str (@PySem.Str.ofString "/claim/cut.py") 705), (@PySem.Value.int (@OfNat.ofNat _ (nat_lit 284) _) 0), (@PySem.Value.int (@OfNat.ofNat _ (nat_lit 1) _) 0), (@PySem.Value.int (@OfNat.ofNat _ (nat_lit 0) _) 0), (@PySem.Value.int (@OfNat.ofNat _ (nat_lit 0) _) 0), (@PySem.Value.int (@OfNat.ofNat _ (nat_lit 3) _) 0), (@PySem.Value.ref 203), (@PySem.Value.bool Bool.true), (@PySem.Value.int (@OfNat.ofNat _ (nat_lit 276) _) 0), (@PySem.Value.ref 204), PySem.Value.none, PySem.Value.none, PySem.Value.none, (@PySem.Value.ref 205), (@PySem.Value.int (@OfNat.ofNat _ (nat_lit 706) _) 0), (@PySem.Value.int (@OfNat.ofNat _ (nat_lit 284) _) 0), (@PySem.Value.str (@PySem.Str.ofString "/claim/cut.py") 707)])) (@List.toArray _ []))) <| List.cons (nat_lit 207, (@PySem.Obj.mk (@PySem.Value.type "function") (@Option.none _) (@PySem.Data.func (@PySem.FuncData.mk (@PySem.Str.ofString "_law_escaped") (@PySem.Str.ofString "_law_escaped") p22 (@PySem.FuncBody.stmts b22) c22 3 [] PySem.Value.none PySem.Value.none PySem.Value.none (@PySem.Value.str (@PySem.Str.ofString "law_kq0056_01") 673) (@Option.none _) (@PySem.Value.ref 206) PySem.Value.none 0)) (@List.toArray _ []))) <| List.cons (nat_lit 208, (@PySem.Obj.mk (@PySem.Value.type "tuple") (@Option.none _) (@PySem.Data.seq (@List.toArray _ []) 0) (@List.toArray _ []))) <| List.cons (nat_lit 211, (@PySem.Obj.mk (@PySem.Value.type "code") (@Option.none _) (@PySem.Data.fields (@List.toArray _ [(@PySem.Value.str (@PySem.Str.ofString "_law_text") 709), (@PySem.Value.str (@PySem.Str.ofString "_law_text") 710), (@PySem.Value.str (@PySem.Str.ofString "/claim/cut.py") 711), (@PySem.Value.int (@OfNat.ofNat _ (nat_lit 286) _) 0), (@PySem.Value.int (@OfNat.ofNat _ (nat_lit 1) _) 0), (@PySem.Value.int (@OfNat.ofNat _ (nat_lit 0) _) 0), (@PySem.Value.int (@OfNat.ofNat _ (nat_lit 0) _) 0), (@PySem.Value.int (@OfNat.ofNat _ (nat_lit 3) _) 0), (@PySem.Value.ref 208), (@PySem.Value.bool Bool.true), (@PySem.Value.int (@OfNat.ofNat _ (nat_lit 276) _) 0), (@PySem.Value.ref 209), PySem.Value.none, PySem.Value.none, PySem.Value.none, (@PySem.Value.ref 210), (@PySem.Value.int (@OfNat.ofNat _ (nat_lit 712) _) 0), (@PySem.Value.int (@OfNat.ofNat _ (nat_lit 286) _) 0), (@PySem.Value.str (@PySem.Str.ofString "/claim/cut.py") 713)])) (@List.toArray _ []))) <| List.cons (nat_lit 212, (@PySem.Obj.mk (@PySem.Value.type "function") (@Option.none _) (@PySem.Data.func (@PySem.FuncData.mk (@PySem.Str.ofString "_law_text") (@PySem.Str.ofString "_law_text") p23 (@PySem.FuncBody.stmts b23) c23 3 [] PySem.Value.none PySem.Value.none PySem.Value.none (@PySem.Value.str (@PySem.Str.ofString "law_kq0056_01") 673) (@Option.none _) (@PySem.Value.ref 211) PySem.Value.none 0)) (@List.toArray _ []))) <| List.cons (nat_lit 213, (@PySem.Obj.mk (@PySem.Value.type "tuple") (@Option.none _) (@PySem.Data.seq (@List.toArray _ []) 0) (@List.toArray _ []))) <| List.cons (nat_lit 216, (@PySem.Obj.mk (@PySem.Value.type "code") (@Option.none _) (@PySem.Data.fields (@List.toArray _ [(@PySem.Value.str (@PySem.Str.ofString "_law_cut") 715), (@PySem.Value.str (@PySem.Str.ofString "_law_cut") 716), (@PySem.Value.str (@PySem.Str.ofString "/claim/cut.py") 717), (@PySem.Value.int (@OfNat.ofNat _ (nat_lit 290) _) 0), (@PySem.Value.int (@OfNat.ofNat _ (nat_lit 1) _) 0), (@PySem.Value.int (@OfNat.ofNat _ (nat_lit 0) _) 0), (@PySem.Value.int (@OfNat.ofNat _ (nat_lit 0) _) 0), (@PySem.Value.int (@OfNat.ofNat _ (nat_lit 3) _) 0), (@PySem.Value.ref 213), (@PySem.Value.bool Bool.true), (@PySem.Value.int (@OfNat.ofNat _ (nat_lit 276) _) 0), (@PySem.Value.ref 214), PySem.Value.none, PySem.Value.none, PySem.Value.none, (@PySem.Value.ref 215), (@PySem.Value.int (@OfNat.ofNat _ (nat_lit 718) _) 0), (@PySem.Value.int (@OfNat.ofNat _ (nat_lit 290) _) 0), (@PySem.Value.str (@PySem.Str.ofString "/claim/cut.py") 719)])) (@List.toArray _ []))) <| List.cons (nat_lit 217, (@PySem.Obj.mk (@PySem.Value.type "function") (@Option.none _) (@PySem.Data.func (@PySem.FuncData.mk (@PySem.Str.ofString "_law_cut") (@PySem.Str.ofString "_law_cut") p24 (@PySem.FuncBody.stmts b24) c24 3 [] PySem.Value.none PySem.Value.none PySem.Value.none (@PySem.Value.str (@PySem.Str.ofString "law_kq0056_01") 673) (@Option.none _) (@PySem.Value.ref 216) PySem.Value.none 0)) (@List.toArray _ []))) <| List.cons (nat_lit 218, (@PySem.Obj.mk (@PySem.Value.type "tuple") (@Option.none _) (@PySem.Data.seq (@List.toArray _ []) 0) (@List.toArray _ []))) <| List.cons (nat_lit 221, (@PySem.Obj.mk (@PySem.Value.type "code") (@Option.none _) (@PySem.Data.fields (@List.toArray _ [(@PySem.Value.str (@PySem.Str.ofString "law") 721), (@PySem.Value.str (@PySem.Str.ofString "law") 722), (@PySem.Value.str (@PySem.Str.ofString "/claim/cut.py") 723), (@PySem.Value.int (@OfNat.ofNat _ (nat_lit 298) _) 0), (@PySem.Value.int (@OfNat.ofNat _ (nat_lit 1) _) 0), (@PySem.Value.int (@OfNat.ofNat _ (nat_lit 0) _) 0), (@PySem.Value.int (@OfNat.ofNat _ (nat_lit 0) _) 0), (@PySem.Value.int (@OfNat.ofNat _ (nat_lit 3) _) 0), (@PySem.Value.ref 218), (@PySem.Value.bool Bool.true), (@PySem.Value.int (@OfNat.ofNat _ (nat_lit 276) _) 0), (@PySem.Value.ref 219), PySem.Value.none, PySem.Value.none, PySem.Value.none, (@PySem.Value.ref 220), (@PySem.Value.int (@OfNat.ofNat _ (nat_lit 724) _) 0), (@PySem.Value.int (@OfNat.ofNat _ (nat_lit 298) _) 0), (@PySem.Value.str (@PySem.Str.ofString "/claim/cut.py") 725)])) (@List.toArray _ []))) <| List.cons (nat_lit 222, (@PySem.Obj.mk (@PySem.Value.type "function") (@Option.none _) (@PySem.Data.func (@PySem.FuncData.mk (@PySem.Str.ofString "law") (@PySem.Str.ofString "law") p25 (@PySem.FuncBody.stmts b25) c25 3 [] PySem.Value.none PySem.Value.none PySem.Value.none (@PySem.Value.str (@PySem.Str.ofString "law_kq0056_01") 673) (@Option.none _) (@PySem.Value.ref 221) PySem.Value.none 0)) (@List.toArray _ []))) <| List.nil
end Mine
end
section
open PySem PySem.W PySem.Calls PyProof.Rows
set_option maxRecDepth 100000
set_option maxHeartbeats 8000000
namespace Mine
section
variable {h₀ h h' : Heap} {L : Addr} {m : Str → Option Value} {news : List (Addr × Obj)}
/-- every object of h stands in h' -/
noncomputable def Kept (h h' : Heap) : Prop := ∀ b o, h.get? b = some o → h'.get? b = some o
theorem Kept.rfl (h : Heap) : Kept h h := fun _ _ e => e
theorem Kept.trans {h₁ h₂ h₃ : Heap} (a : Kept h₁ h₂) (b : Kept h₂ h₃) : Kept h₁ h₃ := fun x o e => b x o (a x o e)
theorem fr_kept (F : Fr h₀ L h m) (k : Kept h h') : Fr h₀ L h' m := ⟨F.ns.keeps k, fun b o e => k b o (F.keep b o e), F.above⟩
theorem news_kept (N : News h₀ L h news) (k : Kept h h') : News h₀ L h' news := fun p hp => ⟨k _ _ (N p hp).1, (N p hp).2⟩
end
section
variable {prog : Program} {w : World} {A₀ A : Around} {s : Shared} {base h₀ : Heap} {outer : List Env} {L : Addr} {m : Str → Option Value} {env : Env} {K : Frag} {p : Program} {loose : List Str} {mean : ExcName → Option Value} {mg mb : Str → Option Value}
  {R : Result → Shared → Prop} {name qual : Str} {params : Arguments} {body : List Stmt} {scope : Scope} {dV kV doc pm cdv ct oc : Value} {an od : Option Addr} {osl : Array (Option Value)} {f : Addr} {args : Args} {binds : List (Str × Value)}
/-- entering a def of the top, its caller's heap the base: what stood, stands at the return -/
theorem callP (B : Below A₀ base outer h₀) (F : Fr h₀ L s.heap m) (X₀ : K.In h₀) (T : Top p loose mean mg mb h₀) (hA : A.frames = some (env :: outer)) (hf : env.frame = some L) (hke : env.scope.kind = .function)
    (ho : K.lookup f = some ⟨oc, od, .func (fnOf name qual params body scope dV kV doc pm an cdv ct), osl⟩) (hcd : codeIn K cdv qual = true) (hroom : A.depth < recursionLimit)
    (hbind : BindsTo s (fnOf name qual params body scope dV kV doc pm an cdv ct) args binds) (hloc : ∀ y ∈ binds, scope.names.lookup y.1 = some .local)
    (h : ∀ g L' h₁, g = s.heap → Fr h₀ L g m → Fr g L' h₁ (fun y => binds.reverse.lookup y) → News g L' h₁ [] → Below A base (env :: outer) g → K.In g → Top p loose mean mg mb g →
      wpAny (model prog w) (A.deeper (envOf qual scope L' f cdv)) (execs body (envOf qual scope L' f cdv))
        (fun fl s' => LeaveK h₀ L m g (fun r s' => Kept g s'.heap → R r s') (match fl with | .ret v => v | _ => .none) s')
        (fun e s' => wpAny (model prog w) (A.deeper (envOf qual scope L' f cdv)) (leaving (envOf qual scope L' f cdv) e) (fun _ s'' => R (.error e) s'') (fun e' s'' => R (.error e') s'') s')
        { s with heap := h₁, toks := s.toks + binds.length })
    (hco : scope.isCoroutine = false) (hgen : scope.isGenerator = false) (hk : scope.kind = .function)
    (hcell : ∀ x ∈ scope.names, x.2 ≠ .cell) : codeAny (model prog w) A (.call (.ref f) args) R s := by
  obtain ⟨FG, BG, st, lv⟩ := groundX (R := R) B F News.nil hA hf hke
  have X := X₀.keeps F.keep
  refine codeAny_call_def (fd := fnOf name qual params body scope dV kV doc pm an cdv ct) (body := body) (binds := binds) hroom (X _ _ ho) rfl (T.nolimit.keeps F.keep) (codeRec_of X hcd) rfl hbind hcell hloc (fun h₁ hns hk₁ => ?_) hco hgen hk
  refine wpAny_mono (h s.heap s.heap.objs.size h₁ rfl FG ⟨hns, hk₁, Nat.le_refl _⟩ News.nil BG X (T.keeps F.keep)) (fun fl s' hl => ?_) fun _ _ y => y
  obtain ⟨L', m', news', F', N', k⟩ := hl
  exact lv _ _ ⟨L', m', news', F', N', fun a b => k a b F'.keep⟩
theorem callPC (B : Below A₀ base outer h₀) (F : Fr h₀ L s.heap m) (X₀ : K.In h₀) (T : Top p loose mean mg mb h₀) (hA : A.frames = some (env :: outer)) (hf : env.frame = some L) (hke : env.scope.kind = .function)
    (ho : K.lookup f = some ⟨oc, od, .func (fnOf name qual params body scope dV kV doc pm an cdv ct), osl⟩) (hcd : codeIn K cdv qual = true) (hroom : A.depth < recursionLimit)
    (hbind : BindsTo s (fnOf name qual params body scope dV kV doc pm an cdv ct) args binds) (hkind : (binds.all fun y => scope.names.lookup y.1 == some .local || scope.names.lookup y.1 == some .cell) = true)
    (hnd : ((cellsFrom 0 scope.names []).map (·.1)).Nodup)
    (h : ∀ g L' h₁ tk cells, g = s.heap → Fr h₀ L g m → Fr g L' h₁ (bindL (envOfC qual scope L' f cdv).kindOf binds fun _ => none) → News g L' h₁ (cells ++ []) →
      CellsAre (bindC (envOfC qual scope L' f cdv).kindOf binds fun _ => none) (cellsFrom (L' + 1) scope.names []) cells → Below A base (env :: outer) g → K.In g → Top p loose mean mg mb g →
      wpAny (model prog w) (A.deeper (envOfC qual scope L' f cdv)) (execs body (envOfC qual scope L' f cdv))
        (fun fl s' => LeaveK h₀ L m g (fun r s' => Kept g s'.heap → R r s') (match fl with | .ret v => v | _ => .none) s')
        (fun e s' => wpAny (model prog w) (A.deeper (envOfC qual scope L' f cdv)) (leaving (envOfC qual scope L' f cdv) e) (fun _ s'' => R (.error e) s'') (fun e' s'' => R (.error e') s'') s')
        { s with heap := h₁, toks := tk })
    (hco : scope.isCoroutine = false) (hgen : scope.isGenerator = false) (hk : scope.kind = .function) : codeAny (model prog w) A (.call (.ref f) args) R s := by
  obtain ⟨FG, BG, st, lv⟩ := groundX (R := R) B F News.nil hA hf hke
  have X := X₀.keeps F.keep
  refine codeAny_call_function hroom (X _ _ ho) rfl hco hgen rfl (codeRec_of X hcd) (hbind _ _ _ _ ?_)
  refine wpAny_newFunctionEnv_cells hk (kindsX hkind _) fun env' he s' x => ?_
  subst he
  refine ⟨(T.nolimit.keeps F.keep).keeps x.toInCall.keep, codeAny_func ?_⟩
  obtain ⟨h₁, tk, rfl, _⟩ := x.done
  have hk₁ := x.toInCall.keep
  obtain ⟨cells, NC, Y⟩ := Cl.news (h₀ := s.heap) (Nat.le_refl _) fun n c hm => ⟨x.cell n c (lookup_of_mem_nodup (cellsFrom_names scope.names 0 (s.heap.objs.size + 1) [] [] rfl ▸ hnd) hm), x.above n c hm⟩
  refine wpAny_mono (h s.heap s.heap.objs.size h₁ tk cells rfl FG ⟨x.toInCall.ns, hk₁, Nat.le_refl _⟩ (fun p hp => ?_) Y BG X (T.keeps F.keep)) (fun fl s' hl => ?_) fun _ _ y => y
  · rw [List.append_nil] at hp
    exact NC p hp
  · obtain ⟨L', m', news', F', N', k⟩ := hl
    exact lv _ _ ⟨L', m', news', F', N', fun a b => k a b F'.keep⟩
end
/-- the room that a call d deep leaves: of frames, of the interpreter's own -/
noncomputable def Room (dp d : Nat) : Prop := dp + d < recursionLimit
noncomputable def Units (un d : Nat) : Prop := un + 8 * d < cLine
theorem Room.deep {dp d k e : Nat} (h : Room dp d) (hk : k + e ≤ d) : Room (dp + k) e := Nat.lt_of_le_of_lt (Nat.le_trans (Nat.le_of_eq (Nat.add_assoc dp k e)) (Nat.add_le_add_left hk dp)) h
theorem Units.deep {un d k e : Nat} (h : Units un d) (hk : k + 8 * e ≤ 8 * d) : Units (un + k) e := Nat.lt_of_le_of_lt (Nat.le_trans (Nat.le_of_eq (Nat.add_assoc un k (8 * e))) (Nat.add_le_add_left hk un)) h
theorem Units.deep2 {un d k l e : Nat} (h : Units un d) (hk : k + l + 8 * e ≤ 8 * d) : Units (un + k + l) e := Nat.add_assoc un k l ▸ Units.deep h hk
theorem Room.lt {dp d : Nat} (h : Room dp d) : dp < recursionLimit := Nat.lt_of_le_of_lt (Nat.le_add_right dp d) h
theorem fcons {α : Type} {p : α → Prop} {a : α} {l : List α} (h : p a) (t : ∀ x ∈ l, p x) : ∀ x ∈ a :: l, p x := List.forall_mem_cons.mpr ⟨h, t⟩
theorem fnil {α : Type} {p : α → Prop} : ∀ x ∈ ([] : List α), p x := List.forall_mem_nil p
/-- what a call of the def at f upon vs comes back with, d deep at most: the answer, and the heap before and behind it -/
noncomputable def Spec (w : World) (d : Nat) (f : Addr) (vs : List Value) (kw : List (Str × Value)) (Pre : Heap → Prop) (R : Heap → Heap → Value → Prop) : Prop :=
  ∀ (loose : List Str) (mean : ExcName → Option Value) (mg mb : Str → Option Value) (dp un : Nat) (gd : Option (List Code)) (cn : Str) (cs : Scope) (a : Addr) (ccd : Value) (cl : List (Str × Addr)) (outer : List Env) (A₀ : Around) (base h₀ : Heap) (L : Addr) (m : Str → Option Value) (s : Shared) (Q E : Value → Shared → Prop),
    Below A₀ base outer h₀ → Fr h₀ L s.heap m → (Mine.heapK w.params).In h₀ → Top topProg loose mean mg mb h₀ → cs.kind = .function →
    Room dp d → Units un d → Pre s.heap →
    (∀ (v : Value) (h' : Heap) (tk' : Nat), Kept s.heap h' → R s.heap h' v → Q v { s with heap := h', toks := tk' }) →
    wpAny (model PySem.Challenge.rw_kq0056_01.row.prog w) (ktrTop dp un gd cn cs L a ccd cl outer) (call (.ref f) vs kw) Q E s
theorem Spec.use {w : World} {d : Nat} {f : Addr} {vs : List Value} {kw : List (Str × Value)} {Pre : Heap → Prop} {R : Heap → Heap → Value → Prop} (C : Spec w d f vs kw Pre R)
    {loose : List Str} {mean : ExcName → Option Value} {mg mb : Str → Option Value} {dp un : Nat} {gd : Option (List Code)} {cn : Str} {cs : Scope} {a : Addr} {ccd : Value} {cl : List (Str × Addr)} {outer : List Env} {A₀ : Around} {base h₀ : Heap} {L : Addr} {m : Str → Option Value} {news : List (Addr × Obj)} {s : Shared} {Q E : Value → Shared → Prop}
    (B : Below A₀ base outer h₀) (F : Fr h₀ L s.heap m) (X : (Mine.heapK w.params).In h₀) (N : News h₀ L s.heap news) (T : Top topProg loose mean mg mb h₀) (hk : cs.kind = .function)
    (hd : Room dp d) (hu : Units un d) (hp : Pre s.heap)
    (h : ∀ (v : Value) (h' : Heap) (tk' : Nat), Fr h₀ L h' m → News h₀ L h' news → Kept s.heap h' → R s.heap h' v → Q v { s with heap := h', toks := tk' }) :
    wpAny (model PySem.Challenge.rw_kq0056_01.row.prog w) (ktrTop dp un gd cn cs L a ccd cl outer) (call (.ref f) vs kw) Q E s :=
  C _ _ _ _ _ _ _ _ _ _ _ _ _ _ _ _ _ _ _ _ _ B F X T hk hd hu hp fun v h' tk' k r => h v h' tk' (fr_kept F k) (news_kept N k) k r
section
variable {prog : Program} {w : World} {A : Around} {E : Value → Shared → Prop} {s : Shared} {h₀ : Heap} {L : Addr} {m : Str → Option Value} {news : List (Addr × Obj)} {cn : Str} {cs : Scope} {a : Addr} {ccd : Value} {cl : List (Str × Addr)} {x : Str} {v : Value} {Q : Unit → Shared → Prop}
/-- a store, the new map under a name -/
theorem storeM {hp : Heap} {gn : Array GenState} {dr : Drawn} {tk₀ : Nat} {os : OsState} (F : Fr h₀ L hp m) (N : News h₀ L hp news)
    (h : ∀ h' (tk : Nat), let m' : Str → Option Value := fun y => if y = x then some v else m y; Fr h₀ L h' m' → News h₀ L h' news → Q () ⟨h', gn, dr, tk, os⟩)
    (hk : cs.kind = .function) (hx : (envX cn cs L a ccd cl).kindOf x = some .local) : wpAny (model prog w) A (storeName (envX cn cs L a ccd cl) x v) Q E ⟨hp, gn, dr, tk₀, os⟩ :=
  storeX_L F N (fun h' F' N' => h h' _ F' N') hk hx
end
/-- the frame's map as a variable -/
theorem fr_gen {h₀ h : Heap} {L : Addr} {m : Str → Option Value} {P : Prop} (F : Fr h₀ L h m) (k : ∀ m1, (∀ z, m1 z = m z) → Fr h₀ L h m1 → P) : P := k m (fun _ => rfl) F
/-- the frame's map under a name -/
theorem fr_let {h₀ h : Heap} {L : Addr} {m : Str → Option Value} {P : Prop} (F : Fr h₀ L h m) (k : let m' := m; Fr h₀ L h m' → P) : P := k F
noncomputable def b64L : List Int := [65, 66, 67, 68, 69, 70, 71, 72, 73, 74, 75, 76, 77, 78, 79, 80, 81, 82, 83, 84, 85, 86, 87, 88, 89, 90, 97, 98, 99, 100, 101, 102, 103, 104, 105, 106, 107, 108, 109, 110, 111, 112, 113, 114, 115, 116, 117, 118, 119, 120, 121, 122, 48, 49, 50, 51, 52, 53, 54, 55, 56, 57, 43, 47]
theorem b64_item {prog : Program} {w : World} {A : Around} {E : Value → Shared → Prop} {s : Shared} {value slice : PySem.Expr} {t : Tok} {i : Int} {ui : Tok} {Q : Value → Shared → Prop}
    (h0 : 0 ≤ i) (h1 : i ≤ 63)
    (h : ∀ t' k, 0 ≤ b64L.getD i.toNat 0 → b64L.getD i.toNat 0 < 256 → Q (.int (b64L.getD i.toNat 0) t') { s with toks := k })
    (hs : subscripted slice false (.bytes #[65, 66, 67, 68, 69, 70, 71, 72, 73, 74, 75, 76, 77, 78, 79, 80, 81, 82, 83, 84, 85, 86, 87, 88, 89, 90, 97, 98, 99, 100, 101, 102, 103, 104, 105, 106, 107, 108, 109, 110, 111, 112, 113, 114, 115, 116, 117, 118, 119, 120, 121, 122, 48, 49, 50, 51, 52, 53, 54, 55, 56, 57, 43, 47] t) (.int i ui) = operate [.bytes #[65, 66, 67, 68, 69, 70, 71, 72, 73, 74, 75, 76, 77, 78, 79, 80, 81, 82, 83, 84, 85, 86, 87, 88, 89, 90, 97, 98, 99, 100, 101, 102, 103, 104, 105, 106, 107, 108, 109, 110, 111, 112, 113, 114, 115, 116, 117, 118, 119, 120, 121, 122, 48, 49, 50, 51, 52, 53, 54, 55, 56, 57, 43, 47] t, .int i ui] (getItem (.bytes #[65, 66, 67, 68, 69, 70, 71, 72, 73, 74, 75, 76, 77, 78, 79, 80, 81, 82, 83, 84, 85, 86, 87, 88, 89, 90, 97, 98, 99, 100, 101, 102, 103, 104, 105, 106, 107, 108, 109, 110, 111, 112, 113, 114, 115, 116, 117, 118, 119, 120, 121, 122, 48, 49, 50, 51, 52, 53, 54, 55, 56, 57, 43, 47] t) (.int i ui)) := by with_unfolding_all rfl)
    (ht : ∀ r, letTemporaryGo value (.bytes #[65, 66, 67, 68, 69, 70, 71, 72, 73, 74, 75, 76, 77, 78, 79, 80, 81, 82, 83, 84, 85, 86, 87, 88, 89, 90, 97, 98, 99, 100, 101, 102, 103, 104, 105, 106, 107, 108, 109, 110, 111, 112, 113, 114, 115, 116, 117, 118, 119, 120, 121, 122, 48, 49, 50, 51, 52, 53, 54, 55, 56, 57, 43, 47] t) r = pure () := by intro _; with_unfolding_all rfl) :
    wpAny (model prog w) A (subscriptTail value slice (.bytes #[65, 66, 67, 68, 69, 70, 71, 72, 73, 74, 75, 76, 77, 78, 79, 80, 81, 82, 83, 84, 85, 86, 87, 88, 89, 90, 97, 98, 99, 100, 101, 102, 103, 104, 105, 106, 107, 108, 109, 110, 111, 112, 113, 114, 115, 116, 117, 118, 119, 120, 121, 122, 48, 49, 50, 51, 52, 53, 54, 55, 56, 57, 43, 47] t) (.int i ui)) Q E s :=
  KBw.item_K (ks := b64L) (by decide +kernel) (by decide +kernel) h0 (Int.lt_of_le_of_lt h1 (by decide +kernel)) h hs ht
theorem and_lo (x : Int) {y : Int} (hy : 0 ≤ y) : 0 ≤ Builtin.bitAnd x y := (bitAnd_range x hy).1
theorem and_hi (x : Int) {y : Int} (hy : 0 ≤ y) : Builtin.bitAnd x y ≤ y := (bitAnd_range x hy).2
theorem bor_add (k : Nat) {a b : Int} (ha : 0 ≤ a) (hb : 0 ≤ b) (hb2 : b < 2 ^ k) : Builtin.bitOr (a * 2 ^ k) b = a * 2 ^ k + b := by
  obtain ⟨x, rfl⟩ := Int.eq_ofNat_of_zero_le ha
  obtain ⟨y, rfl⟩ := Int.eq_ofNat_of_zero_le hb
  have hy : y < 2 ^ k := by exact_mod_cast hb2
  have h1 : ((x : Int) * 2 ^ k) = ((x * 2 ^ k : Nat) : Int) := by push_cast; rfl
  rw [h1]
  have := Nat.shiftLeft_add_eq_or_of_lt hy x
  rw [Nat.shiftLeft_eq] at this
  have z := nat_or_add_and (x * 2 ^ k) y
  have z0 : (x * 2 ^ k) &&& y = 0 := by omega
  rw [bitOr_and, bitAnd_pp (Int.natCast_nonneg _) (Int.natCast_nonneg _)]
  simp only [Int.toNat_natCast]
  rw [z0]; omega
section
variable {prog : Program} {w : World} {A : Around} {E : Value → Shared → Prop} {hp : Heap} {gn : Array GenState} {dr : Drawn} {tk : Nat} {os : OsState} {a b n : Int} {t u : Tok} {Q : Value → Shared → Prop}
theorem rsh2 (hn : n = 2) (h : Q (.int (a / 4) tk) ⟨hp, gn, dr, tk + 1, os⟩) : wpAny (model prog w) A (binaryOp .RShift (.int a t) (.int n u)) Q E ⟨hp, gn, dr, tk, os⟩ := by
  subst hn
  refine rshift_int (by decide) ?_
  have e : a.fdiv (2 ^ Int.toNat 2) = a / 4 := Int.fdiv_eq_ediv_of_nonneg a (by decide)
  rw [e]; exact h
theorem rsh4 (hn : n = 4) (h : Q (.int (a / 16) tk) ⟨hp, gn, dr, tk + 1, os⟩) : wpAny (model prog w) A (binaryOp .RShift (.int a t) (.int n u)) Q E ⟨hp, gn, dr, tk, os⟩ := by
  subst hn
  refine rshift_int (by decide) ?_
  have e : a.fdiv (2 ^ Int.toNat 4) = a / 16 := Int.fdiv_eq_ediv_of_nonneg a (by decide)
  rw [e]; exact h
theorem lsh_ (k : Nat) (P : Int) (hn : n = (k : Int)) (hk : k ≤ 8) (hP : (2 : Int) ^ k = P) (h0 : 0 ≤ a) (h1 : a < 65536) (h : Q (.int (a * P) tk) ⟨hp, gn, dr, tk + 1, os⟩) : wpAny (model prog w) A (binaryOp .LShift (.int a t) (.int n u)) Q E ⟨hp, gn, dr, tk, os⟩ := by
  subst hn
  subst hP
  refine lshift_int_small (by omega) (by omega) (by omega) ?_
  rw [Int.toNat_natCast]; exact h
theorem or_ (k : Nat) (P : Int) (hP : (2 : Int) ^ k = P) (h0 : 0 ≤ a) (h1 : 0 ≤ b) (h2 : b < P) (h : Q (.int (a * P + b) tk) ⟨hp, gn, dr, tk + 1, os⟩) : wpAny (model prog w) A (binaryOp .BitOr (.int (a * P) t) (.int b u)) Q E ⟨hp, gn, dr, tk, os⟩ := by
  subst hP
  refine or_int ?_
  rw [bor_add k h0 h1 h2]; exact h
theorem and65535 (h : Q (.int (a % 65536) tk) ⟨hp, gn, dr, tk + 1, os⟩) : wpAny (model prog w) A (binaryOp .BitAnd (.int a t) (.int 65535 u)) Q E ⟨hp, gn, dr, tk, os⟩ := by
  refine and_int ?_
  rw [bitAnd_m16]; exact h
theorem and63 (h : Q (.int (a % 64) tk) ⟨hp, gn, dr, tk + 1, os⟩) : wpAny (model prog w) A (binaryOp .BitAnd (.int a t) (.int 63 u)) Q E ⟨hp, gn, dr, tk, os⟩ := by
  refine and_int ?_
  rw [bitAnd_m6]; exact h
theorem and15 (h : Q (.int (a % 16) tk) ⟨hp, gn, dr, tk + 1, os⟩) : wpAny (model prog w) A (binaryOp .BitAnd (.int a t) (.int 15 u)) Q E ⟨hp, gn, dr, tk, os⟩ := by
  refine and_int ?_
  rw [bitAnd_m4]; exact h
theorem and3 (h : Q (.int (a % 4) tk) ⟨hp, gn, dr, tk + 1, os⟩) : wpAny (model prog w) A (binaryOp .BitAnd (.int a t) (.int 3 u)) Q E ⟨hp, gn, dr, tk, os⟩ := by
  refine and_int ?_
  rw [bitAnd_m2]; exact h
theorem const_i {k : Nat} {pos : Pos} {env : Env} (h : Q (.int n tk) ⟨hp, gn, dr, tk + 1, os⟩) : wpAny (model prog w) A (eval (.Constant (.int n) k pos) env) Q E ⟨hp, gn, dr, tk, os⟩ := wpAny_Constant_int h
theorem add_i (h : Q (.int (a + b) tk) ⟨hp, gn, dr, tk + 1, os⟩) : wpAny (model prog w) A (binaryOp .Add (.int a t) (.int b u)) Q E ⟨hp, gn, dr, tk, os⟩ := add_int h
theorem sub_i (h : Q (.int (a - b) tk) ⟨hp, gn, dr, tk + 1, os⟩) : wpAny (model prog w) A (binaryOp .Sub (.int a t) (.int b u)) Q E ⟨hp, gn, dr, tk, os⟩ := sub_int h
end
end Mine
end
section
namespace Mine
theorem tn1 {k : Int} (h : 0 ≤ k) : (k + 1).toNat = k.toNat + 1 := Int.toNat_add h (by decide)
theorem tn_lt {k : Int} {n : Nat} (h0 : 0 ≤ k) (h : k < (n : Int)) : k.toNat < n := (Int.toNat_lt h0).mpr h
theorem tn_of {k : Int} {n : Nat} (h0 : 0 ≤ k) (h : k.toNat < n) : k < (n : Int) := (Int.toNat_lt h0).mp h
theorem tn_ltv {k : Int} {n v : Nat} (e : v = n) (h0 : 0 ≤ k) (h : k < (n : Int)) : k.toNat < v := e ▸ tn_lt h0 h
theorem dec0 {k n : Nat} (h : k < n) : n - (k + 1) < n - k := Nat.sub_succ_lt_self _ _ h
theorem dec1 {k : Int} {n : Nat} (h0 : 0 ≤ k) (h : k < (n : Int)) : n - (k + 1).toNat < n - k.toNat := tn1 h0 ▸ dec0 (tn_lt h0 h)
theorem dec2 {j k : Int} {n : Nat} (h0 : 0 ≤ k) (h : k + 1 ≤ j) (hj : j ≤ (n : Int)) : n - j.toNat < n - k.toNat := by omega
theorem addc {a x c : Nat} {k : Int} (h0 : 0 ≤ k) (h : a ≤ c * k.toNat) (hx : x ≤ c) : a + x ≤ c * (k + 1).toNat := by
  rw [tn1 h0, Nat.mul_succ]; exact Nat.add_le_add h hx
theorem tn3 {j k : Int} (h : k + 1 ≤ j) : (j + 1 - k).toNat = (j - k).toNat + 1 := by omega
theorem addd {a x c : Nat} {j k : Int} (h0 : k + 1 ≤ j) (h : a ≤ c * (j - k).toNat) (hx : x ≤ c) : a + x ≤ c * (j + 1 - k).toNat := by
  rw [tn3 h0, Nat.mul_succ]; exact Nat.add_le_add h hx
theorem last_tn {n : Nat} (h : 1 ≤ n) : ((-1 : Int) + (n : Int)).toNat = n - 1 := by omega
theorem min_tn {k : Int} {n : Nat} (h : k ≤ (n : Int)) : min k.toNat n = k.toNat := Nat.min_eq_left (Int.toNat_le.mpr h)
theorem ge0 {j k : Int} (h0 : 0 ≤ k) (h : k + 1 ≤ j) : 0 ≤ j := Int.le_trans h0 (Int.le_trans (Int.le_add_one (Int.le_refl k)) h)
theorem lt_le {k : Int} {n c : Nat} (h : k < (n : Int)) (h2 : n ≤ c) : k ≤ (c : Int) := Int.le_trans (Int.le_of_lt h) (Int.ofNat_le.mpr h2)
theorem tsub3 (i : Nat) : ((3 : Int) - (i : Int)).toNat = 3 - i := Int.toNat_sub 3 i
theorem four {v : Int} (h0 : 0 ≤ v) (h1 : v < 4) : v = 0 ∨ v = 1 ∨ v = 2 ∨ v = 3 := by omega
theorem oct_k {k m : Int} (h0 : 0 ≤ m) (h1 : m < 2) (h : k < 0 + (((1 + m - 0).toNat : Nat) : Int)) : k ≤ 1 := by
  have : m = 0 ∨ m = 1 := by omega
  rcases this with rfl | rfl
  · exact Int.le_of_lt_add_one (Int.lt_of_lt_of_le h (by decide))
  · exact Int.le_of_lt_add_one (Int.lt_of_lt_of_le h (by decide))
end Mine
end
section
open PySem PySem.W PySem.Calls PyProof.Rows
set_option maxRecDepth 100000
set_option maxHeartbeats 8000000
namespace Mine
open Builtin
noncomputable def enc1 (x0 : Int) : List Int := [b64L.getD (x0 / 4).toNat 0, b64L.getD (x0 % 4 * 16).toNat 0, 61, 61]
noncomputable def enc2 (x0 x1 : Int) : List Int := [b64L.getD (x0 / 4).toNat 0, b64L.getD (x0 % 4 * 16 + x1 / 16).toNat 0, b64L.getD (x1 % 16 * 4).toNat 0, 61]
noncomputable def encL : List Int → List Int
  | [x0] => enc1 x0
  | [x0, x1] => enc2 x0 x1
  | _ => []
noncomputable def octs : List Int := [0, 62, 251, 255]
noncomputable def rowTab : List (List Int) := octs.map (fun x => [x]) ++ octs.flatMap (fun x => octs.map fun y => [x, y])
noncomputable def urlI (c : Int) : Int := if c = 43 then 45 else if c = 47 then 95 else c
noncomputable def wI (l : List Int) (p : Bool) : List Int := if p then (encL l).map urlI else encL l
noncomputable def wordL (l : List Int) (p : Bool) : List Nat := (wI l p).map Int.toNat
noncomputable def S (l : List Nat) : PySem.Str := ⟨l.toArray⟩
noncomputable abbrev wordS (l : List Int) (p : Bool) : PySem.Str := S (wordL l p)
theorem dec_word : ∀ l ∈ rowTab, ∀ (p : Bool) (id : String), _codecs.runDecoder id _codecs.asciiDecoder none true (byteArr (wI l p)) 0 [] = pure ((wordS l p).cps, 4) := by
  unfold rowTab octs
  simp only [List.map_cons, List.map_nil, List.flatMap_cons, List.flatMap_nil, List.cons_append, List.nil_append, List.forall_mem_cons, List.append_nil]
  repeat' (first | refine And.intro ?_ ?_ | exact List.forall_mem_nil _)
  all_goals (intro p id; cases p <;> kernel_rfl)
theorem enc_word : ∀ l ∈ rowTab, ∀ (p : Bool) (id : String) (self : Value), _codecs.encodeNarrow id _codecs.asciiCodec none self (wordS l p) = pure (byteArr (wI l p)) := by
  unfold rowTab octs
  simp only [List.map_cons, List.map_nil, List.flatMap_cons, List.flatMap_nil, List.cons_append, List.nil_append, List.forall_mem_cons, List.append_nil]
  repeat' (first | refine And.intro ?_ ?_ | exact List.forall_mem_nil _)
  all_goals (intro p id self; cases p <;> kernel_rfl)
section
variable {b T : Array UInt8} {t u : Tok} {x : PySem.Str} {n : Nat}
set_option maxRecDepth 100000
theorem slot_bytes_translate : Slot "bytes" "translate" "bytes.translate" :=
  .of (owner := "bytes") (n := "translate") (by rw [typeLookup_type, builtinLookup_eq_fast]; kernel_rfl) (by decide +kernel) (by decide +kernel) (by decide +kernel)
    (by first | exact .inl (by decide +kernel) | exact .inr (by decide +kernel)) (by rw [isSubtype_type]; kernel_rfl)
theorem type_bytes_translate : typeOf (.builtin "bytes.translate") = pure (.type "method_descriptor") := by show builtinType _ = _; rw [builtinType_eq_fast]; kernel_rfl
theorem entry_bytes_translate : entryFor table "bytes.translate" = some Builtin.«bytes.translate» := entryFor_of_tree (by kernel_rfl)
theorem args_bytes_translate_2 (a b : Value) : argsOk "bytes.translate" ⟨[a, b], []⟩ := by
  unfold argsOk; rw [signature?_of (id := "bytes.translate") (n := ['e', 't', 'a', 'l', 's', 'n', 'a', 'r', 't']) (o := ['s', 'e', 't', 'y', 'b']) (by kernel_rfl) FB.owner_bytes]; kernel_rfl
theorem payload_bytes : Bytes.payload (.bytes b t) = pure b := by kernel_rfl
theorem meets_translate (hT : T.size = 256) : Meets («bytes.translate» ⟨[.bytes b t, .bytes T u], []⟩) (fun _ R s => b.size ≤ 1000 ∧ ∀ t' k, R (.ok (.ret (.bytes (b.map fun c => T.getD c.toNat c) t'))) { s with toks := k }) := by
  refine .of_wp fun prog w A R s hS => ?_
  obtain ⟨hsz, h⟩ := hS
  simp only [«bytes.translate», Bytes.translateM, List.length_cons, List.length_nil, List.any_nil, Bool.false_eq_true, if_false]
  rw [if_neg (by decide), if_neg (show ¬ ((Value.bytes T u == Value.none) = true) from Bool.false_ne_true)]
  refine wpAny_bind (wpAny_of_eq KBd.like_eq ?_)
  rw [if_neg (by rw [hT]; decide)]
  refine wpAny_bind (wpAny_pure ?_)
  show wpAny _ _ (pure #[] >>= fun delete => _) _ _ s
  refine wpAny_bind (wpAny_pure ?_)
  refine wpAny_bind (wpAny_of_eq payload_bytes ?_)
  have e : Array.filter (fun x => !(#[] : Array UInt8).contains x) b = b := by simp
  rw [e]
  dsimp only
  split
  · rename_i hq
    have hq' := eq_of_beq hq
    refine wpAny_bind (wpAny_rule ?_)
    refine wpAny_bind (m := Bytes.Kind.bytes.same (Value.bytes b t)) (wpAny_of_eq (a := Value.bytes b t) (by kernel_rfl) ?_)
    refine wpAny_pure ⟨_, rfl, ?_⟩
    have := h t s.toks
    rw [hq'] at this
    exact this
  · refine wpAny_bind ?_
    show wpAny _ _ (mkBytes _) _ _ s
    unfold mkBytes
    rw [if_neg (by rw [Array.size_map, sizeLine_eq]; omega)]
    exact wpAny_bind (wpAny_fresh (wpAny_pure (wpAny_pure ⟨_, rfl, h _ _⟩)))
end
section
variable {prog : Program} {w : World} {A : Around} {E : Value → Shared → Prop} {s : Shared} {b T : Array UInt8} {t u : Tok} {x : PySem.Str} {n : Nat} {Q : Value → Shared → Prop}
theorem call_translate (hT : T.size = 256) (hb : b.size ≤ 1000) (h : ∀ t' k, Q (.bytes (b.map fun c => T.getD c.toNat c) t') { s with toks := k }) :
    wpAny (model prog w) A (call (.builtin "bytes.translate") [.bytes b t, .bytes T u]) Q E s :=
  call_meets slot_bytes_translate (typeIs_bytes _ _ _) entry_bytes_translate (args_bytes_translate_2 _ _) (meets_translate hT) ⟨hb, h⟩
theorem method_translate {M : Model} {pl : Sem Bool} {Q : Value × List Value → Shared → Prop} (h : Q (.builtin "bytes.translate", [.bytes b t]) s) : wpAny M A (getMethod (.bytes b t) "translate" pl) Q E s := by
  with_reducible exact KBd.method_of (.bytes b t) (typeIs_bytes _ _ _) slot_bytes_translate type_bytes_translate KBd.noRef h
end
theorem road_ascii {id : String} {b : Array UInt8} : _codecs.decodeRoad id b (PySem.Str.ofString "ascii") none [] = (_codecs.runDecoder id _codecs.asciiDecoder none true b 0 [] >>= fun r => mkStr ⟨r.1⟩) := by kernel_rfl
theorem meets_text_ascii {b : Array UInt8} {t t1 t2 : Tok} {x d : PySem.Str} {n : Nat} (hd : ∀ id, _codecs.runDecoder id _codecs.asciiDecoder none true b 0 [] = pure (x.cps, n)) :
    Meets («_codecs.decode.text» ⟨[.bytes b t, .str (PySem.Str.ofString "ascii") t1, .none, .str d t2], []⟩) (fun _ R s => x.length ≤ sizeLine ∧ R (.ok (.ret (.str x s.toks))) { s with toks := s.toks + 1 }) := by
  refine .of_wp fun prog w A R s hS => ?_
  obtain ⟨hsz, h⟩ := hS
  show wpAny _ _ (Bytes.bytesLike _ (.bytes b t) >>= fun r => _) _ _ s
  refine wpAny_bind (wpAny_of_eq KBd.like_eq ?_)
  refine wpAny_bind (wpAny_of_eq KBd.held_eq ?_)
  show wpAny _ _ (_codecs.decodeRoad _ b (PySem.Str.ofString "ascii") none [] >>= fun v => _) _ _ s
  rw [road_ascii, hd]
  refine wpAny_bind (wpAny_bind (wpAny_pure ?_))
  exact wpAny_mkStr (wpAny_pure ⟨_, rfl, h⟩) hsz
theorem decode_kw_eq {c : UInt8} {cs : List UInt8} {t v : Tok} : «bytes.decode» ⟨[.bytes (c :: cs).toArray t], [(PySem.Str.ofString "encoding", .str (PySem.Str.ofString "ascii") v)]⟩ = (mkStr (PySem.Str.ofString "utf-8") >>= fun _ => mkStr (PySem.Str.ofString "ascii") >>= fun e => mkStr (PySem.Str.ofString "bytes.decode") >>= fun d =>
    call (.builtin "_codecs.decode.text") [.bytes (c :: cs).toArray t, e, .none, d] >>= fun v => ret v) := by kernel_rfl
theorem str_new_eq {b : Array UInt8} {t v : Tok} : «str.__new__» ⟨[.type "str", .bytes b t, .str (PySem.Str.ofString "ascii") v], []⟩ = (mkStr (PySem.Str.ofString "ascii") >>= fun e => rule "str.__new__.decode-bytes" >>= fun _ => call (.builtin "bytes.decode") [.bytes b t] [(PySem.Str.ofString "encoding", e)] >>= fun v => ret v) := by kernel_rfl
theorem wI_size : ∀ l ∈ rowTab, ∀ p : Bool, (byteArr (wI l p)).size = 4 := by decide +kernel
theorem args_decode_kw (a b : Value) : argsOk "bytes.decode" ⟨[a], [(PySem.Str.ofString "encoding", b)]⟩ := by
  unfold argsOk; rw [signature?_of (id := "bytes.decode") (n := ['e', 'd', 'o', 'c', 'e', 'd']) (o := ['s', 'e', 't', 'y', 'b']) (by kernel_rfl) FB.owner_bytes]; kernel_rfl
theorem typeCall_str_2 (a b : Value) : checkTypeCall "str" ⟨[a, b], []⟩ = pure () := by kernel_rfl
theorem newCall_str_2 (a b : Value) : checkBuiltinCall "str.__new__" ⟨[.type "str", a, b], []⟩ = pure () := by kernel_rfl
theorem args_object_init_3 (a b c : Value) : argsOk "object.__init__" ⟨[a, b, c], []⟩ := by unfold argsOk; kernel_rfl
section
variable {prog : Program} {w : World} {A : Around} {E : Value → Shared → Prop} {s : Shared} {t u : Tok} {x : PySem.Str} {n : Nat} {Q : Value → Shared → Prop}
theorem call_decode_kw {b : Array UInt8} (hb : 0 < b.size) (hd : ∀ id, _codecs.runDecoder id _codecs.asciiDecoder none true b 0 [] = pure (x.cps, n)) (hsz : x.length ≤ 1000) (h : ∀ t' k, Q (.str x t') { s with toks := k }) :
    wpAny (model prog w) A (call (.builtin "bytes.decode") [.bytes b t] [(PySem.Str.ofString "encoding", .str (PySem.Str.ofString "ascii") u)]) Q E s := by
  refine wpAny_call_entry_kw FB.slot_bytes_decode (typeIs_bytes _ _ _) FB.entry_bytes_decode ?_ (args_decode_kw _ _)
  obtain ⟨l⟩ := b
  cases l with
  | nil => exact absurd hb (by decide)
  | cons c cs =>
    rw [decode_kw_eq]
    refine wpAny_bind (wpAny_mkStr ?_ (by decide))
    refine wpAny_bind (wpAny_mkStr ?_ (by decide))
    refine wpAny_bind (wpAny_mkStr ?_ (by decide))
    exact wpAny_bind (call_function_meets KBd.kind_text KBd.plain_text KBd.entry_text (KBd.args_text _ _ _ _) (meets_text_ascii hd) ⟨by rw [sizeLine_eq]; omega, wpAny_pure ⟨_, rfl, h _ _⟩⟩)
theorem call_str_ascii {b : Array UInt8} (hb : 0 < b.size) (hd : ∀ id, _codecs.runDecoder id _codecs.asciiDecoder none true b 0 [] = pure (x.cps, n)) (hsz : x.length ≤ 1000) (h : ∀ t' k, Q (.str x t') { s with toks := k }) :
    wpAny (model prog w) A (call (.type "str") [.bytes b t, .str (PySem.Str.ofString "ascii") u]) Q E s := by
  refine callType_new (S := fun _ R s => ∀ t' k, R (.ok (.ret (.str x t'))) { s with toks := k }) F.called_str (by decide) (typeCall_str_2 _ _) (newCall_str_2 _ _) (fun obj => args_object_init_3 obj _ _) F.entry_str_new ?_ (fun t' k => ⟨typeIs_str _ _ _, h t' k⟩)
  refine Meets.of_wp fun prog w A R s h => ?_
  rw [str_new_eq]
  refine wpAny_bind (wpAny_mkStr ?_ (by decide))
  refine wpAny_bind (wpAny_rule ?_)
  exact wpAny_bind (call_decode_kw hb hd hsz fun t' k => wpAny_pure ⟨_, rfl, h _ _⟩)
theorem encode_eq {x : PySem.Str} {t u : Tok} : «str.encode» ⟨[.str x t, .str (PySem.Str.ofString "ascii") u], []⟩ = ((_codecs.encodeNarrow "str.encode" _codecs.asciiCodec none (.str x t) x >>= mkBytes) >>= fun v => ret v) := by kernel_rfl
theorem call_encode {b : Array UInt8} (he : ∀ (id : String) (self : Value), _codecs.encodeNarrow id _codecs.asciiCodec none self x = pure b) (hsz : b.size ≤ 1000) (h : ∀ t' k, Q (.bytes b t') { s with toks := k }) :
    wpAny (model prog w) A (call (.builtin "str.encode") [.str x t, .str (PySem.Str.ofString "ascii") u]) Q E s := by
  refine wpAny_call_entry F.slot_str_encode (typeIs_str _ _ _) F.entry_str_encode ?_ (F.args_str_encode_2 _ _)
  rw [encode_eq, he]
  refine wpAny_bind (wpAny_bind (wpAny_pure ?_))
  show wpAny _ _ (mkBytes _) _ _ s
  unfold mkBytes
  rw [if_neg (by rw [sizeLine_eq]; omega)]
  exact wpAny_bind (wpAny_fresh (wpAny_pure (wpAny_pure ⟨_, rfl, h _ _⟩)))
end
noncomputable def encTab : Array UInt8 := (@List.toArray _ [(@OfNat.ofNat _ (nat_lit 0) _), (@OfNat.ofNat _ (nat_lit 1) _), (@OfNat.ofNat _ (nat_lit 2) _), (@OfNat.ofNat _ (nat_lit 3) _), (@OfNat.ofNat _ (nat_lit 4) _), (@OfNat.ofNat _ (nat_lit 5) _), (@OfNat.ofNat _ (nat_lit 6) _), (@OfNat.ofNat _ (nat_lit 7) _), (@OfNat.ofNat _ (nat_lit 8) _), (@OfNat.ofNat _ (nat_lit 9) _), (@OfNat.ofNat _ (nat_lit 10) _), (@OfNat.ofNat _ (nat_lit 11) _), (@OfNat.ofNat _ (nat_lit 12) _), (@OfNat.ofNat _ (nat_lit 13) _), (@OfNat.ofNat _ (nat_lit 14) _), (@OfNat.ofNat _ (nat_lit 15) _), (@OfNat.ofNat _ (nat_lit 16) _), (@OfNat.ofNat _ (nat_lit 17) _), (@OfNat.ofNat _ (nat_lit 18) _), (@OfNat.ofNat _ (nat_lit 19) _), (@OfNat.ofNat _ (nat_lit 20) _), (@OfNat.ofNat _ (nat_lit 21) _), (@OfNat.ofNat _ (nat_lit 22) _), (@OfNat.ofNat _ (nat_lit 23) _), (@OfNat.ofNat _ (nat_lit 24) _), (@OfNat.ofNat _ (nat_lit 25) _), (@OfNat.ofNat _ (nat_lit 26) _), (@OfNat.ofNat _ (nat_lit 27) _), (@OfNat.ofNat _ (nat_lit 28) _), (@OfNat.ofNat _ (nat_lit 29) _), (@OfNat.ofNat _ (nat_lit 30) _), (@OfNat.ofNat _ (nat_lit 31) _), (@OfNat.ofNat _ (nat_lit 32) _), (@OfNat.ofNat _ (nat_lit 33) _), (@OfNat.ofNat _ (nat_lit 34) _), (@OfNat.ofNat _ (nat_lit 35) _), (@OfNat.ofNat _ (nat_lit 36) _), (@OfNat.ofNat _ (nat_lit 37) _), (@OfNat.ofNat _ (nat_lit 38) _), (@OfNat.ofNat _ (nat_lit 39) _), (@OfNat.ofNat _ (nat_lit 40) _), (@OfNat.ofNat _ (nat_lit 41) _), (@OfNat.ofNat _ (nat_lit 42) _), (@OfNat.ofNat _ (nat_lit 45) _), (@OfNat.ofNat _ (nat_lit 44) _), (@OfNat.ofNat _ (nat_lit 45) _), (@OfNat.ofNat _ (nat_lit 46) _), (@OfNat.ofNat _ (nat_lit 95) _), (@OfNat.ofNat _ (nat_lit 48) _), (@OfNat.ofNat _ (nat_lit 49) _), (@OfNat.ofNat _ (nat_lit 50) _), (@OfNat.ofNat _ (nat_lit 51) _), (@OfNat.ofNat _ (nat_lit 52) _), (@OfNat.ofNat _ (nat_lit 53) _), (@OfNat.ofNat _ (nat_lit 54) _), (@OfNat.ofNat _ (nat_lit 55) _), (@OfNat.ofNat _ (nat_lit 56) _), (@OfNat.ofNat _ (nat_lit 57) _), (@OfNat.ofNat _ (nat_lit 58) _), (@OfNat.ofNat _ (nat_lit 59) _), (@OfNat.ofNat _ (nat_lit 60) _), (@OfNat.ofNat _ (nat_lit 61) _), (@OfNat.ofNat _ (nat_lit 62) _), (@OfNat.ofNat _ (nat_lit 63) _), (@OfNat.ofNat _ (nat_lit 64) _), (@OfNat.ofNat _ (nat_lit 65) _), (@OfNat.ofNat _ (nat_lit 66) _), (@OfNat.ofNat _ (nat_lit 67) _), (@OfNat.ofNat _ (nat_lit 68) _), (@OfNat.ofNat _ (nat_lit 69) _), (@OfNat.ofNat _ (nat_lit 70) _), (@OfNat.ofNat _ (nat_lit 71) _), (@OfNat.ofNat _ (nat_lit 72) _), (@OfNat.ofNat _ (nat_lit 73) _), (@OfNat.ofNat _ (nat_lit 74) _), (@OfNat.ofNat _ (nat_lit 75) _), (@OfNat.ofNat _ (nat_lit 76) _), (@OfNat.ofNat _ (nat_lit 77) _), (@OfNat.ofNat _ (nat_lit 78) _), (@OfNat.ofNat _ (nat_lit 79) _), (@OfNat.ofNat _ (nat_lit 80) _), (@OfNat.ofNat _ (nat_lit 81) _), (@OfNat.ofNat _ (nat_lit 82) _), (@OfNat.ofNat _ (nat_lit 83) _), (@OfNat.ofNat _ (nat_lit 84) _), (@OfNat.ofNat _ (nat_lit 85) _), (@OfNat.ofNat _ (nat_lit 86) _), (@OfNat.ofNat _ (nat_lit 87) _), (@OfNat.ofNat _ (nat_lit 88) _), (@OfNat.ofNat _ (nat_lit 89) _), (@OfNat.ofNat _ (nat_lit 90) _), (@OfNat.ofNat _ (nat_lit 91) _), (@OfNat.ofNat _ (nat_lit 92) _), (@OfNat.ofNat _ (nat_lit 93) _), (@OfNat.ofNat _ (nat_lit 94) _), (@OfNat.ofNat _ (nat_lit 95) _), (@OfNat.ofNat _ (nat_lit 96) _), (@OfNat.ofNat _ (nat_lit 97) _), (@OfNat.ofNat _ (nat_lit 98) _), (@OfNat.ofNat _ (nat_lit 99) _), (@OfNat.ofNat _ (nat_lit 100) _), (@OfNat.ofNat _ (nat_lit 101) _), (@OfNat.ofNat _ (nat_lit 102) _), (@OfNat.ofNat _ (nat_lit 103) _), (@OfNat.ofNat _ (nat_lit 104) _), (@OfNat.ofNat _ (nat_lit 105) _), (@OfNat.ofNat _ (nat_lit 106) _), (@OfNat.ofNat _ (nat_lit 107) _), (@OfNat.ofNat _ (nat_lit 108) _), (@OfNat.ofNat _ (nat_lit 109) _), (@OfNat.ofNat _ (nat_lit 110) _), (@OfNat.ofNat _ (nat_lit 111) _), (@OfNat.ofNat _ (nat_lit 112) _), (@OfNat.ofNat _ (nat_lit 113) _), (@OfNat.ofNat _ (nat_lit 114) _), (@OfNat.ofNat _ (nat_lit 115) _), (@OfNat.ofNat _ (nat_lit 116) _), (@OfNat.ofNat _ (nat_lit 117) _), (@OfNat.ofNat _ (nat_lit 118) _), (@OfNat.ofNat _ (nat_lit 119) _), (@OfNat.ofNat _ (nat_lit 120) _), (@OfNat.ofNat _ (nat_lit 121) _), (@OfNat.ofNat _ (nat_lit 122) _), (@OfNat.ofNat _ (nat_lit 123) _), (@OfNat.ofNat _ (nat_lit 124) _), (@OfNat.ofNat _ (nat_lit 125) _), (@OfNat.ofNat _ (nat_lit 126) _), (@OfNat.ofNat _ (nat_lit 127) _), (@OfNat.ofNat _ (nat_lit 128) _), (@OfNat.ofNat _ (nat_lit 129) _), (@OfNat.ofNat _ (nat_lit 130) _), (@OfNat.ofNat _ (nat_lit 131) _), (@OfNat.ofNat _ (nat_lit 132) _), (@OfNat.ofNat _ (nat_lit 133) _), (@OfNat.ofNat _ (nat_lit 134) _), (@OfNat.ofNat _ (nat_lit 135) _), (@OfNat.ofNat _ (nat_lit 136) _), (@OfNat.ofNat _ (nat_lit 137) _), (@OfNat.ofNat _ (nat_lit 138) _), (@OfNat.ofNat _ (nat_lit 139) _), (@OfNat.ofNat _ (nat_lit 140) _), (@OfNat.ofNat _ (nat_lit 141) _), (@OfNat.ofNat _ (nat_lit 142) _), (@OfNat.ofNat _ (nat_lit 143) _), (@OfNat.ofNat _ (nat_lit 144) _), (@OfNat.ofNat _ (nat_lit 145) _), (@OfNat.ofNat _ (nat_lit 146) _), (@OfNat.ofNat _ (nat_lit 147) _), (@OfNat.ofNat _ (nat_lit 148) _), (@OfNat.ofNat _ (nat_lit 149) _), (@OfNat.ofNat _ (nat_lit 150) _), (@OfNat.ofNat _ (nat_lit 151) _), (@OfNat.ofNat _ (nat_lit 152) _), (@OfNat.ofNat _ (nat_lit 153) _), (@OfNat.ofNat _ (nat_lit 154) _), (@OfNat.ofNat _ (nat_lit 155) _), (@OfNat.ofNat _ (nat_lit 156) _), (@OfNat.ofNat _ (nat_lit 157) _), (@OfNat.ofNat _ (nat_lit 158) _), (@OfNat.ofNat _ (nat_lit 159) _), (@OfNat.ofNat _ (nat_lit 160) _), (@OfNat.ofNat _ (nat_lit 161) _), (@OfNat.ofNat _ (nat_lit 162) _), (@OfNat.ofNat _ (nat_lit 163) _), (@OfNat.ofNat _ (nat_lit 164) _), (@OfNat.ofNat _ (nat_lit 165) _), (@OfNat.ofNat _ (nat_lit 166) _), (@OfNat.ofNat _ (nat_lit 167) _), (@OfNat.ofNat _ (nat_lit 168) _), (@OfNat.ofNat _ (nat_lit 169) _), (@OfNat.ofNat _ (nat_lit 170) _), (@OfNat.ofNat _ (nat_lit 171) _), (@OfNat.ofNat _ (nat_lit 172) _), (@OfNat.ofNat _ (nat_lit 173) _), (@OfNat.ofNat _ (nat_lit 174) _), (@OfNat.ofNat _ (nat_lit 175) _), (@OfNat.ofNat _ (nat_lit 176) _), (@OfNat.ofNat _ (nat_lit 177) _), (@OfNat.ofNat _ (nat_lit 178) _), (@OfNat.ofNat _ (nat_lit 179) _), (@OfNat.ofNat _ (nat_lit 180) _), (@OfNat.ofNat _ (nat_lit 181) _), (@OfNat.ofNat _ (nat_lit 182) _), (@OfNat.ofNat _ (nat_lit 183) _), (@OfNat.ofNat _ (nat_lit 184) _), (@OfNat.ofNat _ (nat_lit 185) _), (@OfNat.ofNat _ (nat_lit 186) _), (@OfNat.ofNat _ (nat_lit 187) _), (@OfNat.ofNat _ (nat_lit 188) _), (@OfNat.ofNat _ (nat_lit 189) _), (@OfNat.ofNat _ (nat_lit 190) _), (@OfNat.ofNat _ (nat_lit 191) _), (@OfNat.ofNat _ (nat_lit 192) _), (@OfNat.ofNat _ (nat_lit 193) _), (@OfNat.ofNat _ (nat_lit 194) _), (@OfNat.ofNat _ (nat_lit 195) _), (@OfNat.ofNat _ (nat_lit 196) _), (@OfNat.ofNat _ (nat_lit 197) _), (@OfNat.ofNat _ (nat_lit 198) _), (@OfNat.ofNat _ (nat_lit 199) _), (@OfNat.ofNat _ (nat_lit 200) _), (@OfNat.ofNat _ (nat_lit 201) _), (@OfNat.ofNat _ (nat_lit 202) _), (@OfNat.ofNat _ (nat_lit 203) _), (@OfNat.ofNat _ (nat_lit 204) _), (@OfNat.ofNat _ (nat_lit 205) _), (@OfNat.ofNat _ (nat_lit 206) _), (@OfNat.ofNat _ (nat_lit 207) _), (@OfNat.ofNat _ (nat_lit 208) _), (@OfNat.ofNat _ (nat_lit 209) _), (@OfNat.ofNat _ (nat_lit 210) _), (@OfNat.ofNat _ (nat_lit 211) _), (@OfNat.ofNat _ (nat_lit 212) _), (@OfNat.ofNat _ (nat_lit 213) _), (@OfNat.ofNat _ (nat_lit 214) _), (@OfNat.ofNat _ (nat_lit 215) _), (@OfNat.ofNat _ (nat_lit 216) _), (@OfNat.ofNat _ (nat_lit 217) _), (@OfNat.ofNat _ (nat_lit 218) _), (@OfNat.ofNat _ (nat_lit 219) _), (@OfNat.ofNat _ (nat_lit 220) _), (@OfNat.ofNat _ (nat_lit 221) _), (@OfNat.ofNat _ (nat_lit 222) _), (@OfNat.ofNat _ (nat_lit 223) _), (@OfNat.ofNat _ (nat_lit 224) _), (@OfNat.ofNat _ (nat_lit 225) _), (@OfNat.ofNat _ (nat_lit 226) _), (@OfNat.ofNat _ (nat_lit 227) _), (@OfNat.ofNat _ (nat_lit 228) _), (@OfNat.ofNat _ (nat_lit 229) _), (@OfNat.ofNat _ (nat_lit 230) _), (@OfNat.ofNat _ (nat_lit 231) _), (@OfNat.ofNat _ (nat_lit 232) _), (@OfNat.ofNat _ (nat_lit 233) _), (@OfNat.ofNat _ (nat_lit 234) _), (@OfNat.ofNat _ (nat_lit 235) _), (@OfNat.ofNat _ (nat_lit 236) _), (@OfNat.ofNat _ (nat_lit 237) _), (@OfNat.ofNat _ (nat_lit 238) _), (@OfNat.ofNat _ (nat_lit 239) _), (@OfNat.ofNat _ (nat_lit 240) _), (@OfNat.ofNat _ (nat_lit 241) _), (@OfNat.ofNat _ (nat_lit 242) _), (@OfNat.ofNat _ (nat_lit 243) _), (@OfNat.ofNat _ (nat_lit 244) _), (@OfNat.ofNat _ (nat_lit 245) _), (@OfNat.ofNat _ (nat_lit 246) _), (@OfNat.ofNat _ (nat_lit 247) _), (@OfNat.ofNat _ (nat_lit 248) _), (@OfNat.ofNat _ (nat_lit 249) _), (@OfNat.ofNat _ (nat_lit 250) _), (@OfNat.ofNat _ (nat_lit 251) _), (@OfNat.ofNat _ (nat_lit 252) _), (@OfNat.ofNat _ (nat_lit 253) _), (@OfNat.ofNat _ (nat_lit 254) _), (@OfNat.ofNat _ (nat_lit 255) _)])
noncomputable def decTab : Array UInt8 := (@List.toArray _ [(@OfNat.ofNat _ (nat_lit 0) _), (@OfNat.ofNat _ (nat_lit 1) _), (@OfNat.ofNat _ (nat_lit 2) _), (@OfNat.ofNat _ (nat_lit 3) _), (@OfNat.ofNat _ (nat_lit 4) _), (@OfNat.ofNat _ (nat_lit 5) _), (@OfNat.ofNat _ (nat_lit 6) _), (@OfNat.ofNat _ (nat_lit 7) _), (@OfNat.ofNat _ (nat_lit 8) _), (@OfNat.ofNat _ (nat_lit 9) _), (@OfNat.ofNat _ (nat_lit 10) _), (@OfNat.ofNat _ (nat_lit 11) _), (@OfNat.ofNat _ (nat_lit 12) _), (@OfNat.ofNat _ (nat_lit 13) _), (@OfNat.ofNat _ (nat_lit 14) _), (@OfNat.ofNat _ (nat_lit 15) _), (@OfNat.ofNat _ (nat_lit 16) _), (@OfNat.ofNat _ (nat_lit 17) _), (@OfNat.ofNat _ (nat_lit 18) _), (@OfNat.ofNat _ (nat_lit 19) _), (@OfNat.ofNat _ (nat_lit 20) _), (@OfNat.ofNat _ (nat_lit 21) _), (@OfNat.ofNat _ (nat_lit 22) _), (@OfNat.ofNat _ (nat_lit 23) _), (@OfNat.ofNat _ (nat_lit 24) _), (@OfNat.ofNat _ (nat_lit 25) _), (@OfNat.ofNat _ (nat_lit 26) _), (@OfNat.ofNat _ (nat_lit 27) _), (@OfNat.ofNat _ (nat_lit 28) _), (@OfNat.ofNat _ (nat_lit 29) _), (@OfNat.ofNat _ (nat_lit 30) _), (@OfNat.ofNat _ (nat_lit 31) _), (@OfNat.ofNat _ (nat_lit 32) _), (@OfNat.ofNat _ (nat_lit 33) _), (@OfNat.ofNat _ (nat_lit 34) _), (@OfNat.ofNat _ (nat_lit 35) _), (@OfNat.ofNat _ (nat_lit 36) _), (@OfNat.ofNat _ (nat_lit 37) _), (@OfNat.ofNat _ (nat_lit 38) _), (@OfNat.ofNat _ (nat_lit 39) _), (@OfNat.ofNat _ (nat_lit 40) _), (@OfNat.ofNat _ (nat_lit 41) _), (@OfNat.ofNat _ (nat_lit 42) _), (@OfNat.ofNat _ (nat_lit 43) _), (@OfNat.ofNat _ (nat_lit 44) _), (@OfNat.ofNat _ (nat_lit 43) _), (@OfNat.ofNat _ (nat_lit 46) _), (@OfNat.ofNat _ (nat_lit 47) _), (@OfNat.ofNat _ (nat_lit 48) _), (@OfNat.ofNat _ (nat_lit 49) _), (@OfNat.ofNat _ (nat_lit 50) _), (@OfNat.ofNat _ (nat_lit 51) _), (@OfNat.ofNat _ (nat_lit 52) _), (@OfNat.ofNat _ (nat_lit 53) _), (@OfNat.ofNat _ (nat_lit 54) _), (@OfNat.ofNat _ (nat_lit 55) _), (@OfNat.ofNat _ (nat_lit 56) _), (@OfNat.ofNat _ (nat_lit 57) _), (@OfNat.ofNat _ (nat_lit 58) _), (@OfNat.ofNat _ (nat_lit 59) _), (@OfNat.ofNat _ (nat_lit 60) _), (@OfNat.ofNat _ (nat_lit 61) _), (@OfNat.ofNat _ (nat_lit 62) _), (@OfNat.ofNat _ (nat_lit 63) _), (@OfNat.ofNat _ (nat_lit 64) _), (@OfNat.ofNat _ (nat_lit 65) _), (@OfNat.ofNat _ (nat_lit 66) _), (@OfNat.ofNat _ (nat_lit 67) _), (@OfNat.ofNat _ (nat_lit 68) _), (@OfNat.ofNat _ (nat_lit 69) _), (@OfNat.ofNat _ (nat_lit 70) _), (@OfNat.ofNat _ (nat_lit 71) _), (@OfNat.ofNat _ (nat_lit 72) _), (@OfNat.ofNat _ (nat_lit 73) _), (@OfNat.ofNat _ (nat_lit 74) _), (@OfNat.ofNat _ (nat_lit 75) _), (@OfNat.ofNat _ (nat_lit 76) _), (@OfNat.ofNat _ (nat_lit 77) _), (@OfNat.ofNat _ (nat_lit 78) _), (@OfNat.ofNat _ (nat_lit 79) _), (@OfNat.ofNat _ (nat_lit 80) _), (@OfNat.ofNat _ (nat_lit 81) _), (@OfNat.ofNat _ (nat_lit 82) _), (@OfNat.ofNat _ (nat_lit 83) _), (@OfNat.ofNat _ (nat_lit 84) _), (@OfNat.ofNat _ (nat_lit 85) _), (@OfNat.ofNat _ (nat_lit 86) _), (@OfNat.ofNat _ (nat_lit 87) _), (@OfNat.ofNat _ (nat_lit 88) _), (@OfNat.ofNat _ (nat_lit 89) _), (@OfNat.ofNat _ (nat_lit 90) _), (@OfNat.ofNat _ (nat_lit 91) _), (@OfNat.ofNat _ (nat_lit 92) _), (@OfNat.ofNat _ (nat_lit 93) _), (@OfNat.ofNat _ (nat_lit 94) _), (@OfNat.ofNat _ (nat_lit 47) _), (@OfNat.ofNat _ (nat_lit 96) _), (@OfNat.ofNat _ (nat_lit 97) _), (@OfNat.ofNat _ (nat_lit 98) _), (@OfNat.ofNat _ (nat_lit 99) _), (@OfNat.ofNat _ (nat_lit 100) _), (@OfNat.ofNat _ (nat_lit 101) _), (@OfNat.ofNat _ (nat_lit 102) _), (@OfNat.ofNat _ (nat_lit 103) _), (@OfNat.ofNat _ (nat_lit 104) _), (@OfNat.ofNat _ (nat_lit 105) _), (@OfNat.ofNat _ (nat_lit 106) _), (@OfNat.ofNat _ (nat_lit 107) _), (@OfNat.ofNat _ (nat_lit 108) _), (@OfNat.ofNat _ (nat_lit 109) _), (@OfNat.ofNat _ (nat_lit 110) _), (@OfNat.ofNat _ (nat_lit 111) _), (@OfNat.ofNat _ (nat_lit 112) _), (@OfNat.ofNat _ (nat_lit 113) _), (@OfNat.ofNat _ (nat_lit 114) _), (@OfNat.ofNat _ (nat_lit 115) _), (@OfNat.ofNat _ (nat_lit 116) _), (@OfNat.ofNat _ (nat_lit 117) _), (@OfNat.ofNat _ (nat_lit 118) _), (@OfNat.ofNat _ (nat_lit 119) _), (@OfNat.ofNat _ (nat_lit 120) _), (@OfNat.ofNat _ (nat_lit 121) _), (@OfNat.ofNat _ (nat_lit 122) _), (@OfNat.ofNat _ (nat_lit 123) _), (@OfNat.ofNat _ (nat_lit 124) _), (@OfNat.ofNat _ (nat_lit 125) _), (@OfNat.ofNat _ (nat_lit 126) _), (@OfNat.ofNat _ (nat_lit 127) _), (@OfNat.ofNat _ (nat_lit 128) _), (@OfNat.ofNat _ (nat_lit 129) _), (@OfNat.ofNat _ (nat_lit 130) _), (@OfNat.ofNat _ (nat_lit 131) _), (@OfNat.ofNat _ (nat_lit 132) _), (@OfNat.ofNat _ (nat_lit 133) _), (@OfNat.ofNat _ (nat_lit 134) _), (@OfNat.ofNat _ (nat_lit 135) _), (@OfNat.ofNat _ (nat_lit 136) _), (@OfNat.ofNat _ (nat_lit 137) _), (@OfNat.ofNat _ (nat_lit 138) _), (@OfNat.ofNat _ (nat_lit 139) _), (@OfNat.ofNat _ (nat_lit 140) _), (@OfNat.ofNat _ (nat_lit 141) _), (@OfNat.ofNat _ (nat_lit 142) _), (@OfNat.ofNat _ (nat_lit 143) _), (@OfNat.ofNat _ (nat_lit 144) _), (@OfNat.ofNat _ (nat_lit 145) _), (@OfNat.ofNat _ (nat_lit 146) _), (@OfNat.ofNat _ (nat_lit 147) _), (@OfNat.ofNat _ (nat_lit 148) _), (@OfNat.ofNat _ (nat_lit 149) _), (@OfNat.ofNat _ (nat_lit 150) _), (@OfNat.ofNat _ (nat_lit 151) _), (@OfNat.ofNat _ (nat_lit 152) _), (@OfNat.ofNat _ (nat_lit 153) _), (@OfNat.ofNat _ (nat_lit 154) _), (@OfNat.ofNat _ (nat_lit 155) _), (@OfNat.ofNat _ (nat_lit 156) _), (@OfNat.ofNat _ (nat_lit 157) _), (@OfNat.ofNat _ (nat_lit 158) _), (@OfNat.ofNat _ (nat_lit 159) _), (@OfNat.ofNat _ (nat_lit 160) _), (@OfNat.ofNat _ (nat_lit 161) _), (@OfNat.ofNat _ (nat_lit 162) _), (@OfNat.ofNat _ (nat_lit 163) _), (@OfNat.ofNat _ (nat_lit 164) _), (@OfNat.ofNat _ (nat_lit 165) _), (@OfNat.ofNat _ (nat_lit 166) _), (@OfNat.ofNat _ (nat_lit 167) _), (@OfNat.ofNat _ (nat_lit 168) _), (@OfNat.ofNat _ (nat_lit 169) _), (@OfNat.ofNat _ (nat_lit 170) _), (@OfNat.ofNat _ (nat_lit 171) _), (@OfNat.ofNat _ (nat_lit 172) _), (@OfNat.ofNat _ (nat_lit 173) _), (@OfNat.ofNat _ (nat_lit 174) _), (@OfNat.ofNat _ (nat_lit 175) _), (@OfNat.ofNat _ (nat_lit 176) _), (@OfNat.ofNat _ (nat_lit 177) _), (@OfNat.ofNat _ (nat_lit 178) _), (@OfNat.ofNat _ (nat_lit 179) _), (@OfNat.ofNat _ (nat_lit 180) _), (@OfNat.ofNat _ (nat_lit 181) _), (@OfNat.ofNat _ (nat_lit 182) _), (@OfNat.ofNat _ (nat_lit 183) _), (@OfNat.ofNat _ (nat_lit 184) _), (@OfNat.ofNat _ (nat_lit 185) _), (@OfNat.ofNat _ (nat_lit 186) _), (@OfNat.ofNat _ (nat_lit 187) _), (@OfNat.ofNat _ (nat_lit 188) _), (@OfNat.ofNat _ (nat_lit 189) _), (@OfNat.ofNat _ (nat_lit 190) _), (@OfNat.ofNat _ (nat_lit 191) _), (@OfNat.ofNat _ (nat_lit 192) _), (@OfNat.ofNat _ (nat_lit 193) _), (@OfNat.ofNat _ (nat_lit 194) _), (@OfNat.ofNat _ (nat_lit 195) _), (@OfNat.ofNat _ (nat_lit 196) _), (@OfNat.ofNat _ (nat_lit 197) _), (@OfNat.ofNat _ (nat_lit 198) _), (@OfNat.ofNat _ (nat_lit 199) _), (@OfNat.ofNat _ (nat_lit 200) _), (@OfNat.ofNat _ (nat_lit 201) _), (@OfNat.ofNat _ (nat_lit 202) _), (@OfNat.ofNat _ (nat_lit 203) _), (@OfNat.ofNat _ (nat_lit 204) _), (@OfNat.ofNat _ (nat_lit 205) _), (@OfNat.ofNat _ (nat_lit 206) _), (@OfNat.ofNat _ (nat_lit 207) _), (@OfNat.ofNat _ (nat_lit 208) _), (@OfNat.ofNat _ (nat_lit 209) _), (@OfNat.ofNat _ (nat_lit 210) _), (@OfNat.ofNat _ (nat_lit 211) _), (@OfNat.ofNat _ (nat_lit 212) _), (@OfNat.ofNat _ (nat_lit 213) _), (@OfNat.ofNat _ (nat_lit 214) _), (@OfNat.ofNat _ (nat_lit 215) _), (@OfNat.ofNat _ (nat_lit 216) _), (@OfNat.ofNat _ (nat_lit 217) _), (@OfNat.ofNat _ (nat_lit 218) _), (@OfNat.ofNat _ (nat_lit 219) _), (@OfNat.ofNat _ (nat_lit 220) _), (@OfNat.ofNat _ (nat_lit 221) _), (@OfNat.ofNat _ (nat_lit 222) _), (@OfNat.ofNat _ (nat_lit 223) _), (@OfNat.ofNat _ (nat_lit 224) _), (@OfNat.ofNat _ (nat_lit 225) _), (@OfNat.ofNat _ (nat_lit 226) _), (@OfNat.ofNat _ (nat_lit 227) _), (@OfNat.ofNat _ (nat_lit 228) _), (@OfNat.ofNat _ (nat_lit 229) _), (@OfNat.ofNat _ (nat_lit 230) _), (@OfNat.ofNat _ (nat_lit 231) _), (@OfNat.ofNat _ (nat_lit 232) _), (@OfNat.ofNat _ (nat_lit 233) _), (@OfNat.ofNat _ (nat_lit 234) _), (@OfNat.ofNat _ (nat_lit 235) _), (@OfNat.ofNat _ (nat_lit 236) _), (@OfNat.ofNat _ (nat_lit 237) _), (@OfNat.ofNat _ (nat_lit 238) _), (@OfNat.ofNat _ (nat_lit 239) _), (@OfNat.ofNat _ (nat_lit 240) _), (@OfNat.ofNat _ (nat_lit 241) _), (@OfNat.ofNat _ (nat_lit 242) _), (@OfNat.ofNat _ (nat_lit 243) _), (@OfNat.ofNat _ (nat_lit 244) _), (@OfNat.ofNat _ (nat_lit 245) _), (@OfNat.ofNat _ (nat_lit 246) _), (@OfNat.ofNat _ (nat_lit 247) _), (@OfNat.ofNat _ (nat_lit 248) _), (@OfNat.ofNat _ (nat_lit 249) _), (@OfNat.ofNat _ (nat_lit 250) _), (@OfNat.ofNat _ (nat_lit 251) _), (@OfNat.ofNat _ (nat_lit 252) _), (@OfNat.ofNat _ (nat_lit 253) _), (@OfNat.ofNat _ (nat_lit 254) _), (@OfNat.ofNat _ (nat_lit 255) _)])
theorem enc_tr : ∀ l ∈ rowTab, (byteArr (encL l)).map (fun c => encTab.getD c.toNat c) = byteArr (wI l true) := by decide +kernel
theorem dec_tr : ∀ l ∈ rowTab, (byteArr (wI l true)).map (fun c => decTab.getD c.toNat c) = byteArr (encL l) := by decide +kernel
theorem encL_size : ∀ l ∈ rowTab, (byteArr (encL l)).size = 4 := by decide +kernel
theorem word_len : ∀ l ∈ rowTab, ∀ p : Bool, (wordS l p).length = 4 := by decide +kernel
noncomputable def par (k : Int) : Bool := decide (k % 2 = 1)
theorem par_t {k : Int} (h : k.fmod 2 = 1) : par k = true := decide_eq_true (by rw [Int.fmod_eq_emod_of_nonneg k (by decide)] at h; exact h)
theorem par_f {k : Int} (h : ¬ k.fmod 2 = 1) : par k = false := decide_eq_false (by rw [Int.fmod_eq_emod_of_nonneg k (by decide)] at h; exact h)
section
variable {prog : Program} {w : World} {A : Around} {E : Value → Shared → Prop} {s : Shared} {t u : Tok} {l : List Int} {T : Array UInt8} {Q : Value → Shared → Prop}
theorem call_urlenc (hl : l ∈ rowTab) (hT : T = encTab) (h : ∀ t' k, Q (.bytes (byteArr (wI l true)) t') { s with toks := k }) :
    wpAny (model prog w) A (call (.builtin "bytes.translate") [.bytes (byteArr (encL l)) t, .bytes T u]) Q E s := by
  subst hT
  refine call_translate (by decide +kernel) (by rw [encL_size l hl]; decide) fun t' k => ?_
  rw [enc_tr l hl]; exact h t' k
theorem call_urldec (hl : l ∈ rowTab) (hT : T = decTab) (h : ∀ t' k, Q (.bytes (byteArr (encL l)) t') { s with toks := k }) :
    wpAny (model prog w) A (call (.builtin "bytes.translate") [.bytes (byteArr (wI l true)) t, .bytes T u]) Q E s := by
  subst hT
  refine call_translate (by decide +kernel) (by rw [wI_size l hl]; decide) fun t' k => ?_
  rw [dec_tr l hl]; exact h t' k
theorem call_strword {p : Bool} (hl : l ∈ rowTab) (h : ∀ t' k, Q (.str (wordS l p) t') { s with toks := k }) :
    wpAny (model prog w) A (call (.type "str") [.bytes (byteArr (wI l p)) t, .str (PySem.Str.ofString "ascii") u]) Q E s :=
  call_str_ascii (by rw [wI_size l hl]; decide) (dec_word l hl p) (by rw [word_len l hl]; decide) h
theorem call_strword0 (hl : l ∈ rowTab) (h : ∀ t' k, Q (.str (wordS l false) t') { s with toks := k }) :
    wpAny (model prog w) A (call (.type "str") [.bytes (byteArr (encL l)) t, .str (PySem.Str.ofString "ascii") u]) Q E s := call_strword (p := false) hl h
theorem call_encword {p : Bool} (hl : l ∈ rowTab) (h : ∀ t' k, Q (.bytes (byteArr (wI l p)) t') { s with toks := k }) :
    wpAny (model prog w) A (call (.builtin "str.encode") [.str (wordS l p) t, .str (PySem.Str.ofString "ascii") u]) Q E s :=
  call_encode (enc_word l hl p) (by rw [wI_size l hl]; decide) h
end
end Mine
end
section
open PySem PySem.W PySem.Calls PyProof.Rows
set_option maxRecDepth 100000
set_option maxHeartbeats 8000000
namespace Mine
open Builtin
section
variable {prog : Program} {w : World} {A : Around} {E : Value → Shared → Prop} {s : Shared}
theorem bytes_len_look : typeLookup (.type "bytes") "__len__" = pure (some (.builtin "bytes.__len__")) := by rw [typeLookup_type, builtinLookup_eq_fast]; kernel_rfl
theorem wpAny_extend_bytes {R : Result → Shared → Prop} (hh : A.handled = none) (b : Array UInt8) (t : Tok) (S : Addr) (res : Value) (c₀ : Nat) (hS : s.heap.get? S = some { cls := .type "list", data := .seq #[] c₀ })
    (hR : ∀ h' tk acc' c', (∀ b o, b ≠ S → s.heap.get? b = some o → h'.get? b = some o) → h'.get? S = some { cls := .type "list", dict := none, data := .seq acc' c', slots := #[] } →
      ItemsOf (fun i v => ∃ c u, b[i]? = some c ∧ v = .int (c.toNat : Int) u) acc' b.size → R (.ok (.ret res)) { s with heap := h', toks := tk }) (hn : b.size ≤ sizeLine) :
    wpAny (model prog w) A.in1 (Builtin.List.listExtendWith (.ref S) (.bytes b t) res)
      (fun fin s' => match fin with | .done f => R (.ok f) s' | .again c' => c'.quiet = true ∧ codeAny (model prog w) A c' R s') (fun e s' => R (.error e) s') s := by
  have hSI : S ≠ s.heap.objs.size := Nat.ne_of_lt (Heap.lt_size hS)
  have hSf : S ∉ [s.heap.objs.size] := fun hm => hSI (List.mem_singleton.mp hm)
  unfold Builtin.List.listExtendWith
  refine wpAny_bind (wpAny_typeOf (T := "bytes") (v := .bytes b t) rfl ?_)
  have h1 : Builtin.List.listSameRef (.ref S) (.bytes b t) = false := rfl
  have h2 : (Value.type "bytes" == Value.type "list") = false := by decide
  have h3 : (Value.type "bytes" == Value.type "tuple") = false := by decide
  simp only [h1, h2, h3, Bool.or_false, Bool.false_eq_true, if_false]
  refine wpAny_bind (KBw.pyIter_bytes ?_)
  refine wpAny_bind (wpAny_holding ?_)
  unfold Builtin.List.listLengthHint
  refine wpAny_bind (wpAny_specialOf (T := "bytes") (v := .bytes b t) rfl bytes_len_look ?_)
  wp_delta
  refine wpAny_bind (wpAny_isInstance (T := "bytes") (v := .bytes b t) (b := true) rfl (by rw [isSubtype_type]; kernel_rfl) ?_)
  show wpAny _ _ (typeOf (Value.bytes b t) >>= _) _ _ _
  refine wpAny_bind (wpAny_typeOf (T := "bytes") (v := .bytes b t) rfl ?_)
  refine wpAny_pure ?_
  rw [if_neg (by decide)]
  have W := KBw.walks (prog := prog) (w := w) (A := A.in1) hh s.heap.objs.size b t
  refine wpAny_pure ⟨plainId_quiet F.plain_extend_loop _, codeAny_extend_loopS W.toS hn _ hSf _ b.size 0 _ _ _ rfl (Nat.zero_le _) ⟨_, Heap.get?_push_size _ rfl, rfl, rfl⟩ (Heap.get?_push_of_some _ hS) (ItemsOf.nil _) fun s' acc' c' hm hS' hacc => ?_⟩
  rw [Moved.eq_with hm]
  refine hR s'.heap s'.toks acc' c' (fun b ob hb e => hm.heap b ob (fun hmem => ?_) (Heap.get?_push_of_some _ e)) hS' hacc
  rcases List.mem_cons.mp hmem with e' | hmem
  · exact hb e'
  · exact absurd (Heap.lt_size e) (by rw [List.mem_singleton.mp hmem]; exact Nat.lt_irrefl _)
theorem wpAny_list_init_bytes {R : Result → Shared → Prop} (hh : A.handled = none) (b : Array UInt8) (t : Tok) (S : Addr) (hS : s.heap.get? S = some { cls := .type "list", data := .seq #[] })
    (hR : ∀ h' tk acc' c', (∀ b o, b ≠ S → s.heap.get? b = some o → h'.get? b = some o) → h'.get? S = some { cls := .type "list", dict := none, data := .seq acc' c', slots := #[] } →
      ItemsOf (fun i v => ∃ c u, b[i]? = some c ∧ v = .int (c.toNat : Int) u) acc' b.size → R (.ok (.ret .none)) { s with heap := h', toks := tk }) (hn : b.size ≤ sizeLine) :
    wpAny (model prog w) A.in1 (Builtin.«list.__init__» ⟨[.ref S, .bytes b t], []⟩)
      (fun fin s' => match fin with | .done f => R (.ok f) s' | .again c' => c'.quiet = true ∧ codeAny (model prog w) A c' R s') (fun e s' => R (.error e) s') s := by
  show wpAny _ _ (do let old ← Builtin.List.listItems (.ref S); Builtin.List.listUpdate (.ref S) (fun _ => #[]); letGo old.toList.reverse; Builtin.List.listExtendWith (.ref S) (.bytes b t) .none) _ _ s
  refine wpAny_bind ?_
  unfold Builtin.List.listItems
  refine wpAny_bind (wpAny_seqItems hS rfl (wpAny_pure ?_))
  show wpAny _ _ (updateSeq S (fun _ => #[]) >>= fun _ => letGo (#[] : Array Value).toList.reverse >>= fun _ => Builtin.List.listExtendWith (.ref S) (.bytes b t) .none) _ _ s
  refine wpAny_bind (wpAny_updateSeq hS rfl ?_)
  have hS₂ := Heap.get?_update_self (Obj.mapSeq (fun _ => (#[] : Array Value))) hS rfl
  have oth : ∀ b o, b ≠ S → s.heap.get? b = some o → (s.heap.update S (Obj.mapSeq (fun _ => (#[] : Array Value)))).get? b = some o :=
    fun b o hb e => (Heap.get?_update_other _ _ (Ne.symm hb)).trans e
  refine wpAny_bind (wpAny_letGo ?_)
  refine wpAny_extend_bytes (hn := hn) hh b t S .none _ hS₂ fun h' tk acc' c' hk hS' hacc => ?_
  exact hR h' tk acc' c' (fun b o hb e => hk b o hb (oth b o hb e)) hS' hacc
theorem call_list_bytes {Q : Value → Shared → Prop} (hh : A.handled = none) (b : Array UInt8) (t : Tok)
    (hQ : ∀ h' tk acc' c', (∀ b o, s.heap.get? b = some o → h'.get? b = some o) →
      h'.get? s.heap.objs.size = some { cls := .type "list", dict := none, data := .seq acc' c', slots := #[] } → ItemsOf (fun i v => ∃ c u, b[i]? = some c ∧ v = .int (c.toNat : Int) u) acc' b.size → Q (.ref s.heap.objs.size) { s with heap := h', toks := tk }) (hn : b.size ≤ sizeLine) :
    wpAny (model prog w) A (call (.type "list") [.bytes b t]) Q E s := by
  refine callType_codes (Q₁ := fun obj s₁ => obj = .ref s.heap.objs.size ∧ s₁ = { s with heap := s.heap.push { cls := .type "list", data := .seq #[] } }) F.called_list (F.typeCall_list_1 _) F.entry_list_init
    (code_list_new _ ⟨rfl, rfl⟩) fun obj s₁ h₁ => ?_
  obtain ⟨rfl, rfl⟩ := h₁
  have hS : (s.heap.push { cls := .type "list", data := .seq #[] }).get? s.heap.objs.size = some { cls := .type "list", data := .seq #[] } := Heap.get?_push_size _ rfl
  refine ⟨⟨_, hS, rfl⟩, F.args_list_init_2 _ _, wpAny_list_init_bytes (A := A.in1) (hn := hn) hh b t _ hS fun h' tk acc' c' hk hS' hacc => ?_⟩
  exact ⟨rfl, hQ h' tk acc' c' (fun b o e => hk b o (Nat.ne_of_lt (Heap.lt_size e)) (Heap.get?_push_of_some _ e)) hS' hacc⟩
end
section
variable {prog : Program} {w : World} {A : Around} {E : Value → Shared → Prop} {s : Shared} {h₀ : Heap} {L : Addr} {m : Str → Option Value} {news : List (Addr × Obj)} {Q : Value → Shared → Prop} {b : Array UInt8} {t : Tok} {x0 x1 : Int}
theorem list_bytesK (F : Fr h₀ L s.heap m) (N : News h₀ L s.heap news) (hh : A.handled = none)
    (h : ∀ D c h' tk acc, ItemsOf (fun i v => ∃ c u, b[i]? = some c ∧ v = .int (c.toNat : Int) u) acc b.size → Fr h₀ L h' m → News h₀ L h' ((D, W.listOf acc c) :: news) → (∀ q ∈ news, q.1 < D) → Q (.ref D) { s with heap := h', toks := tk }) (hsz : b.size ≤ 1000) :
    wpAny (model prog w) A (call (.type "list") [.bytes b t]) Q E s :=
  call_list_bytes hh b t (fun h' tk acc' c' hk hS' hacc => h _ c' h' tk acc' hacc (F.keeps hk) (news_pushed F N hk hS' rfl) fun q hq => Heap.lt_size (N q hq).1) (by rw [sizeLine_eq]; omega)
theorem list_bytes1 (F : Fr h₀ L s.heap m) (N : News h₀ L s.heap news) (hh : A.handled = none) (hb : KBw.bInts b = [x0])
    (h : ∀ D c h' tk t0, Fr h₀ L h' m → News h₀ L h' ((D, W.listOf #[.int x0 t0] c) :: news) → (∀ q ∈ news, q.1 < D) → Q (.ref D) { s with heap := h', toks := tk }) :
    wpAny (model prog w) A (call (.type "list") [.bytes b t]) Q E s := by
  have hs : b.size = 1 := by rw [← KBw.ints_length, hb]; rfl
  refine list_bytesK F N hh (fun D c h' tk acc hacc F' N' l1 => ?_) (by omega)
  obtain ⟨h1, h2⟩ := hacc
  rw [hs] at h1
  obtain ⟨l⟩ := acc
  match l, h1 with
  | [v], _ =>
    obtain ⟨c0, u, hc, rfl⟩ := h2 0 v rfl
    have := KBw.ints_get hc
    rw [hb] at this
    have e : x0 = (c0.toNat : Int) := Option.some.inj this
    rw [← e] at N'
    exact h D c h' tk u F' N' l1
theorem list_bytes2 (F : Fr h₀ L s.heap m) (N : News h₀ L s.heap news) (hh : A.handled = none) (hb : KBw.bInts b = [x0, x1])
    (h : ∀ D c h' tk t0 t1, Fr h₀ L h' m → News h₀ L h' ((D, W.listOf #[.int x0 t0, .int x1 t1] c) :: news) → (∀ q ∈ news, q.1 < D) → Q (.ref D) { s with heap := h', toks := tk }) :
    wpAny (model prog w) A (call (.type "list") [.bytes b t]) Q E s := by
  have hs : b.size = 2 := by rw [← KBw.ints_length, hb]; rfl
  refine list_bytesK F N hh (fun D c h' tk acc hacc F' N' l1 => ?_) (by omega)
  obtain ⟨h1, h2⟩ := hacc
  rw [hs] at h1
  obtain ⟨l⟩ := acc
  match l, h1 with
  | [v, v'], _ =>
    obtain ⟨c0, u, hc, rfl⟩ := h2 0 v rfl
    obtain ⟨c1, u', hc', rfl⟩ := h2 1 v' rfl
    have z := KBw.ints_get hc
    have z' := KBw.ints_get hc'
    rw [hb] at z z'
    have e : x0 = (c0.toNat : Int) := Option.some.inj z
    have e' : x1 = (c1.toNat : Int) := Option.some.inj z'
    rw [← e, ← e'] at N'
    exact h D c h' tk u u' F' N' l1
end
section
variable {M : Model} {A : Around} {E : Value → Shared → Prop} {s : Shared} {x : PySem.Str} {t : Tok} {pl : Sem Bool} {Q : Value × List Value → Shared → Prop}
theorem m_encode (h : Q (.builtin "str.encode", [.str x t]) s) : wpAny M A (getMethod (.str x t) "encode" pl) Q E s := by
  with_reducible exact GM.of (.str x t) (typeIs_str _ _ _) F.slot_str_encode F.type_str_encode GM.noRef h
theorem m_translate (h : Q (.builtin "str.translate", [.str x t]) s) : wpAny M A (getMethod (.str x t) "translate" pl) Q E s := by
  with_reducible exact GM.of (.str x t) (typeIs_str _ _ _) F.slot_str_translate F.type_str_translate GM.noRef h
end
noncomputable def rowL (x : Int) : List Int := if x % 2 = 0 then [octs.getD (x / 2 % 4).toNat 0] else [octs.getD (x / 2 % 4).toNat 0, octs.getD (x / 8 % 4).toNat 0]
theorem octs_getD {v : Int} (h0 : 0 ≤ v) (h1 : v < 4) (d : Int) : (if v = 0 then 0 else if v = 1 then 62 else if v = 2 then 251 else if v = 3 then 255 else d) = octs.getD v.toNat 0 := by
  have : v = 0 ∨ v = 1 ∨ v = 2 ∨ v = 3 := four h0 h1
  rcases this with rfl | rfl | rfl | rfl <;> rfl
theorem rowL_eq (x : Int) : List.map (fun k' => if ((x.fdiv 2).fdiv (3 * k' + 1)).fmod 4 = 0 then 0 else if ((x.fdiv 2).fdiv (3 * k' + 1)).fmod 4 = 1 then 62 else if ((x.fdiv 2).fdiv (3 * k' + 1)).fmod 4 = 2 then 251
      else if ((x.fdiv 2).fdiv (3 * k' + 1)).fmod 4 = 3 then 255 else k') (rangeKs 0 (1 + x.fmod 2 - 0).toNat) = rowL x := by
  have f0 : ((x.fdiv 2).fdiv (3 * 0 + 1)).fmod 4 = x / 2 % 4 := by
    rw [Int.fmod_eq_emod_of_nonneg _ (by decide), Int.fdiv_eq_ediv_of_nonneg _ (by decide), Int.fdiv_eq_ediv_of_nonneg _ (by decide)]; show x / 2 / 1 % 4 = _; rw [Int.ediv_one]
  have f1 : ((x.fdiv 2).fdiv (3 * 1 + 1)).fmod 4 = x / 8 % 4 := by
    rw [Int.fmod_eq_emod_of_nonneg _ (by decide), Int.fdiv_eq_ediv_of_nonneg _ (by decide), Int.fdiv_eq_ediv_of_nonneg _ (by decide)]; show x / 2 / 4 % 4 = x / (2 * 4) % 4; rw [Int.ediv_ediv_of_nonneg (by decide)]
  have hm : x.fmod 2 = x % 2 := Int.fmod_eq_emod_of_nonneg _ (by decide)
  unfold rowL
  rw [hm]
  by_cases h : x % 2 = 0
  · rw [if_pos h, h]
    show List.map _ [0] = _
    simp only [List.map_cons, List.map_nil]
    rw [f0, octs_getD (by omega) (by omega)]
  · rw [if_neg h, (Int.emod_two_eq x).resolve_left h]
    show List.map _ [0, 1] = _
    simp only [List.map_cons, List.map_nil]
    rw [f0, f1, octs_getD (by omega) (by omega), octs_getD (by omega) (by omega)]
theorem octs_mem {v : Int} (h0 : 0 ≤ v) (h1 : v < 4) : octs.getD v.toNat 0 ∈ octs := by
  have : v = 0 ∨ v = 1 ∨ v = 2 ∨ v = 3 := four h0 h1
  rcases this with rfl | rfl | rfl | rfl <;> decide
theorem rowL_mem (x : Int) : rowL x ∈ rowTab := by
  unfold rowL
  split
  · exact List.mem_append_left _ (List.mem_map_of_mem (f := fun x => [x]) (octs_mem (by omega) (by omega)))
  · exact List.mem_append_right _ (List.mem_flatMap.mpr ⟨_, octs_mem (by omega) (by omega), List.mem_map_of_mem (octs_mem (by omega) (by omega))⟩)
theorem row_cases {l : List Int} (hl : l ∈ rowTab) : (∃ x0 ∈ octs, l = [x0]) ∨ (∃ x0 ∈ octs, ∃ x1 ∈ octs, l = [x0, x1]) := by
  rcases List.mem_append.mp hl with h | h
  · obtain ⟨x, hx, rfl⟩ := List.mem_map.mp h
    exact .inl ⟨x, hx, rfl⟩
  · obtain ⟨x, hx, h⟩ := List.mem_flatMap.mp h
    obtain ⟨y, hy, rfl⟩ := List.mem_map.mp h
    exact .inr ⟨x, hx, y, hy, rfl⟩
theorem octs_in : ∀ x ∈ octs, 0 ≤ x ∧ x < 256 := by decide
theorem row_ints : ∀ l ∈ rowTab, KBw.bInts (byteArr l) = l := by decide +kernel
end Mine
end
section
open PySem PySem.W PySem.Calls PyProof.Rows
set_option maxRecDepth 100000
set_option maxHeartbeats 8000000
namespace Mine
open LCg
noncomputable def SrcG (prog : Program) (w : World) (A : Around) (h₀ : Heap) (L : Addr) (m : Str → Option Value) (env : Env) (elt : Expr) (x : Str) (scope : Scope) (cl : List (Str × Addr)) (Fin : Shared → List Value → List (Addr × Obj) → Prop) (it : Value) (s₂ : Shared) : Prop :=
  ∃ (I : Addr) (fp : List Addr) (n : Nat) (P : Nat → Value → Prop) (St : Nat → Heap → Prop) (S : List (Addr × Obj) → Prop) (news : List (Addr × Obj)), it = .ref I ∧ Walks prog w A I fp [I] n P St ∧ n ≤ sizeLine ∧ (∀ i h, St i h → ∃ o, h.get? I = some o) ∧
    (∀ i h h' o nw, St i h → h.get? I = some o → h'.get? I = some o → (∀ b o, h₀.get? b = some o → h'.get? b = some o) → News h₀ L h' nw → S nw → St i h') ∧
    St 0 s₂.heap ∧ (∀ b ∈ fp, b < s₂.heap.objs.size) ∧ Fr h₀ L s₂.heap m ∧ News h₀ L s₂.heap news ∧ L ≠ I ∧ h₀.get? I = none ∧ (∀ p ∈ news, p.1 ≠ I) ∧ S news ∧
    CompRest prog w A h₀ L m env elt x scope cl s₂ S P (Fin s₂) n 0 [] news
section
variable {prog : Program} {w : World} {A : Around} {E : Value → Shared → Prop} {s : Shared} {h₀ : Heap} {L : Addr} {m : Str → Option Value} {env : Env}
theorem ListComp_G {elt iter : Expr} {x : Str} {px : Pos} {scope : Scope} {cl : List (Str × Addr)} {pos : Pos} {Q : Value → Shared → Prop} (_F₀ : Fr h₀ L s.heap m)
    (hclos : closureFor scope env = pure cl) (hcell : ∀ y ∈ scope.names, y.2 ≠ .cell) (hkind : scope.kind = .function)
    (hnames : ∀ y ∈ scope.names, y.2 = .local → scope.names.lookup y.1 = some .local) (hx : scope.names.lookup x = some .local)
    (h : wpAny (model prog w) A (eval iter env) (fun xv s₁ => wpAny (model prog w) A (pyIter xv) (SrcG prog w A h₀ L m env elt x scope cl (fun s₂ => FinE h₀ L m s₂ Q)) E s₁) E s)
    (hs : ∀ x, foldedSetIterable iter env x = pure x := by intro _; rfl) :
    wpAny (model prog w) A (eval (.ListComp elt [⟨.Name x px, iter, [], 0⟩] scope pos) env) Q E s := by
  rw [eval_ListComp]
  refine wpAny_comprehension_free (use := none) rfl hs hclos hkind hnames (wpAny_mono h (fun xv s₁ h₁ => ?_) fun _ _ e => e)
  refine wpAny_mono h₁ (fun it s₂ h₂ => ?_) fun _ _ e => e
  obtain ⟨I, fp, n, P, St, S, news, rfl, W, hsz, hIo, hSt, hst, hfp, F, N, hIL, hI₀, off, hS, R⟩ := h₂
  refine block_U W hsz hIo hSt hcell hkind hx hst hfp F N hIL hI₀ off hS R ?_
  intro D C h tk m' ys news' F' N' o1 hn hC₀ hD₀ hCL hDL hCD offC fin
  refine ⟨m', hn, fun h'' hs'' => fin D h'' tk (F'.change hs'' hCL hC₀) (fun p hp => ?_) o1⟩
  refine ⟨hs''.extBut _ _ ?_ (N' p hp).1, (N' p hp).2⟩
  rcases List.mem_cons.mp hp with rfl | hp
  · exact Ne.symm hCD
  · exact offC p hp
theorem src_down {elt : Expr} {x : Str} {scope : Scope} {cl : List (Str × Addr)} {Fin : Shared → List Value → List (Addr × Obj) → Prop} {r : Addr} {a b : Int} {t u v : Tok} {n : Nat} {news : List (Addr × Obj)}
    (hh : A.handled = none) (F : Fr h₀ L s.heap m) (N : News h₀ L s.heap news) (hr : IsRange s.heap r a b (-1) t u v) (hsm : Builtin.Range.small a b (-1) = true) (hn : Builtin.Range.rangeSize a b (-1) = ((n : Nat) : Int)) (hsz : n ≤ sizeLine)
    (h : ∀ g, CompRest prog w A h₀ L m env elt x scope cl { s with heap := g } (fun _ => True) (fun i v => ∃ t, v = .int (a - (i : Int)) t) (Fin { s with heap := g }) n 0 [] news) :
    wpAny (model prog w) A (pyIter (.ref r)) (SrcG prog w A h₀ L m env elt x scope cl Fin) E s := by
  refine wpAny_pyIter_range hr hsm ?_
  have W0 := Walks.range (prog := prog) (w := w) hh s.heap.objs.size a (-1) n
  let W : Walks prog w A s.heap.objs.size [s.heap.objs.size] [s.heap.objs.size] n (fun i v => ∃ t, v = .int (a - (i : Int)) t) (fun i h => IsRangeIter h s.heap.objs.size (a + (i : Nat) * (-1)) ((n : Int) - (i : Nat)) (-1)) :=
    { sub := W0.sub, frame := W0.frame, done := W0.done, self := W0.self,
      item := fun i s Q E hi st hQ => W0.item i s Q E hi st fun v h' tk hP => hQ v h' tk (by obtain ⟨t, rfl⟩ := hP; exact ⟨t, by congr 1; omega⟩) }
  refine ⟨_, _, n, _, _, fun _ => True, news, rfl, W, hsz, fun i h st => ⟨_, st⟩, ?_, by show IsRangeIter _ _ _ _ _; rw [hn]; simpa using Heap.get?_push_size _ rfl, fun b hb => ?_, F.keeps fun _ _ e => Heap.get?_push_of_some _ e, N.grown fun _ _ e => Heap.get?_push_of_some _ e, Nat.ne_of_lt F.ns.lt, next_is_new F, fun p hp => Nat.ne_of_lt (Heap.lt_size (N p hp).1), trivial, h _⟩
  · intro i h h' o nw st e e' _ _ _
    have st' : h.get? s.heap.objs.size = some _ := st
    show h'.get? s.heap.objs.size = some _
    rw [e', ← e]; exact st'
  · rw [List.mem_singleton.mp hb]
    show s.heap.objs.size < (s.heap.push _).objs.size
    rw [Heap.size_push]; exact Nat.lt_succ_self _
theorem src_str {elt : Expr} {x : Str} {scope : Scope} {cl : List (Str × Addr)} {Fin : Shared → List Value → List (Addr × Obj) → Prop} {z : Str} {t : Tok} {news : List (Addr × Obj)}
    (hh : A.handled = none) (F : Fr h₀ L s.heap m) (N : News h₀ L s.heap news) (ha : z.cps.all (· < 128) = true) (hsz : z.cps.size ≤ sizeLine)
    (h : ∀ g, CompRest prog w A h₀ L m env elt x scope cl { s with heap := g } (fun _ => True) (SignAt z) (Fin { s with heap := g }) z.cps.size 0 [] news) :
    wpAny (model prog w) A (pyIter (.str z t)) (SrcG prog w A h₀ L m env elt x scope cl Fin) E s := by
  refine wpAny_pyIter_ascii ha ?_
  have W := Walks.strAscii (prog := prog) (w := w) hh s.heap.objs.size z t
  refine ⟨_, _, _, _, _, fun _ => True, news, rfl, W, hsz, fun i h st => (let ⟨o, e, _⟩ := st; ⟨o, e⟩), ?_, ⟨_, Heap.get?_push_size _ rfl, rfl, rfl⟩, fun b hb => ?_, F.keeps fun _ _ e => Heap.get?_push_of_some _ e, N.grown fun _ _ e => Heap.get?_push_of_some _ e, Nat.ne_of_lt F.ns.lt, next_is_new F, fun p hp => Nat.ne_of_lt (Heap.lt_size (N p hp).1), trivial, h _⟩
  · rintro i h h' o nw ⟨o', q, r⟩ e e' _ _ _
    rw [e] at q; cases q; exact ⟨o, e', r⟩
  · rw [List.mem_singleton.mp hb]
    show s.heap.objs.size < (s.heap.push _).objs.size
    rw [Heap.size_push]; exact Nat.lt_succ_self _
end
end Mine
end
section
open PySem PySem.W PySem.Calls PyProof.Rows
set_option maxRecDepth 100000
set_option maxHeartbeats 8000000
namespace Mine
noncomputable abbrev PStr := PySem.Str
noncomputable def lit (s : String) : List Nat := s.toList.map Char.toNat
theorem ofS (s : String) : PySem.Str.ofString s = S (lit s) := PySem.Str.ofString_eq_toList s
theorem S_len (a : List Nat) : (S a).length = a.length := by simp [S, PySem.Str.length]
theorem S_app (a b : List Nat) : S a ++ S b = S (a ++ b) := by
  show PySem.Str.append _ _ = _
  simp [S, PySem.Str.append]
theorem S_inj {a b : List Nat} : S a = S b ↔ a = b := by
  constructor
  · intro h
    have := congrArg (fun x => x.cps.toList) h
    simpa [S] using this
  · intro h; rw [h]
theorem S_of (x : PySem.Str) : x = S x.cps.toList := by simp [S]
theorem S_join : ∀ ls : List (List Nat), PySem.Str.join (S []) (ls.map S) = S ls.flatten
  | [] => rfl
  | [x] => by simp [PySem.Str.join]
  | x :: y :: r => by
    show S x ++ S [] ++ PySem.Str.join (S []) ((y :: r).map S) = _
    rw [S_join (y :: r), S_app, S_app]; simp
theorem txt_join (ls : List (List Nat)) : Txt.join (S []) (ls.map S) = S ls.flatten := by
  rw [← S_join]
  exact StrLaws.glued_eq_join _ _
section
variable {prog : Program} {w : World} {A : Around} {E : Value → Shared → Prop} {s : Shared} {x y : PySem.Str} {a b : List Nat} {t u : Tok} {Q : Value → Shared → Prop}
theorem add_SS (hx : x = S a) (hy : y = S b) (hsz : a.length + b.length ≤ 1000000) (h : ∀ t' k, Q (.str (S (a ++ b)) t') { s with toks := k }) :
    wpAny (model prog w) A (binaryOp .Add (.str x t) (.str y u)) Q E s := by
  subst hx hy
  refine PyProof.Rows.add_str (fun t' k => ?_) (by rw [S_len, S_len, sizeLine_eq]; omega)
  rw [S_app]; exact h t' k
theorem item_S {value slice : PySem.Expr} {i : Int} (hx : x = S a) (h0 : 0 ≤ i) (h1 : i < (a.length : Int)) (hsz : a.length ≤ 1000000) (h : ∀ t' k, Q (.str (S [a.getD i.toNat 0]) t') { s with toks := k })
    (hs : subscripted slice false (.str x t) (.int i u) = operate [.str x t, .int i u] (getItem (.str x t) (.int i u)) := by with_unfolding_all rfl)
    (ht : ∀ r, letTemporaryGo value (.str x t) r = pure () := by intro _; with_unfolding_all rfl) :
    wpAny (model prog w) A (subscriptTail value slice (.str x t) (.int i u)) Q E s := by
  subst hx
  refine tail_of_ItemOn ⟨"str", _, F.slot_str_getitem.lookup, typeIs_str _ _ _, ?_⟩ hs ht
  have hi : i.toNat < a.length := by omega
  refine P.getItem_str (c := a.getD i.toNat 0) (by simp only [Bool.or_eq_false_iff, decide_eq_false_iff_not]; omega) ?_ (h _ _)
  have hq : seqIndex? i (S a).length = some i.toNat := by
    rw [S_len]
    exact StrLaws.seqIndex_nonneg h0 h1
  rw [hq]
  simp [S, hi]
theorem mul_S {c : Nat} {n : Int} (hx : x = S [c]) (h0 : 0 ≤ n) (h1 : n ≤ 1000) (h : ∀ t' k, Q (.str (S (List.replicate n.toNat c)) t') { s with toks := k }) :
    wpAny (model prog w) A (binaryOp .Mult (.str x t) (.int n u)) Q E s := by
  subst hx
  refine SB.mul (mulOk_of 1 1000 (by rw [S_len]; exact Nat.le_refl 1) (by omega) (by omega) (by decide) (by decide)) fun t' k => ?_
  have e : Txt.mul (S [c]) n = S (List.replicate n.toNat c) := by
    have := mul_one_list c n
    rw [S_of (Txt.mul (S [c]) n)]
    exact S_inj.mpr this
  rw [e]; exact h t' k
theorem join_S {D : Addr} {items : Array Value} {ls : List (List Nat)} (hx : x = S []) (hl : s.heap.IsList D items) (hi : StrsAre items.toList (ls.map S)) (hsz : (ls.map List.length).sum ≤ 1000000)
    (h : ∀ t' k, Q (.str (S ls.flatten) t') { s with toks := k }) : wpAny (model prog w) A (call (.builtin "str.join") [.str x t, .ref D]) Q E s := by
  subst hx
  refine join_list hl hi ?_ fun t' k => ?_
  · rw [S_len, List.map_map]
    have : (fun z => PySem.Str.length z) ∘ S = List.length := by funext z; exact S_len z
    rw [this]; simp only [List.length_nil, Nat.mul_zero, Nat.add_zero]; omega
  · rw [txt_join]; exact h t' k
theorem join_S2 {D : Addr} {a b : List Nat} {t1 t2 : Tok} (hx : x = S []) (hl : s.heap.IsList D [.str (S a) t1, .str (S b) t2].toArray) (hsz : a.length + b.length ≤ 100000)
    (h : ∀ t' k, Q (.str (S (a ++ b)) t') { s with toks := k }) : wpAny (model prog w) A (call (.builtin "str.join") [.str x t, .ref D]) Q E s :=
  join_S (ls := [a, b]) hx hl (.cons _ _ (.cons _ _ .nil)) (by simp; omega) fun t' k => by simpa using h t' k
theorem join_S3 {D : Addr} {a b c : List Nat} {t1 t2 t3 : Tok} (hx : x = S []) (hl : s.heap.IsList D [.str (S a) t1, .str (S b) t2, .str (S c) t3].toArray) (hsz : a.length + b.length + c.length ≤ 100000)
    (h : ∀ t' k, Q (.str (S (a ++ (b ++ c))) t') { s with toks := k }) : wpAny (model prog w) A (call (.builtin "str.join") [.str x t, .ref D]) Q E s :=
  join_S (ls := [a, b, c]) hx hl (.cons _ _ (.cons _ _ (.cons _ _ .nil))) (by simp; omega) fun t' k => by simpa using h t' k
end
end Mine
end
section
open PySem PySem.W PySem.Calls PyProof.Rows
set_option maxRecDepth 100000
set_option maxHeartbeats 8000000
namespace Mine
open LCg
section
variable {prog : Program} {w : World} {A : Around} {E : Value → Shared → Prop} {s : Shared} {h₀ : Heap} {env : Env}
noncomputable def ForG (prog : Program) (w : World) (A : Around) (env : Env) (x : Str) (px : Pos) (body : List Stmt) (Q : Flow → Shared → Prop) (E : Value → Shared → Prop) (it : Value) (s₂ : Shared) : Prop :=
  codeAny (model prog w) A (.forLoop (.Name x px) it body [] env) (fun r s' => match r with | .ok f => Q f s' | .error e => cameBackBy (model prog w) A env E e s') s₂
theorem For_G {x : Str} {px pos : Pos} {iter : Expr} {body : List Stmt} {Q : Flow → Shared → Prop} {m : Str → Option Value} (_F : Fr h₀ env.locals s.heap m)
    (h : wpAny (model prog w) A (eval iter env) (fun xv s₁ => wpAny (model prog w) A (pyIter xv) (fun it s₂ => ForG prog w A env x px body Q E it s₂) E s₁) E s)
    (hs : ∀ x, foldedSetIterable iter env x = pure x := by intro _; rfl) :
    wpAny (model prog w) A (exec (.For (.Name x px) iter body [] pos) env) Q E s :=
  wpAny_For (wpAny_mono h (fun _ _ h₁ => wpAny_mono h₁ (fun _ _ h₂ => h₂) fun _ _ e => e) fun _ _ e => e) hs
/-- the end of a turn -/
noncomputable def ForTurn {σ : Type} (h₀ : Heap) (L : Addr) (s : Shared) (I : Addr) (oI : Obj) (Led : σ → List (Addr × Obj)) (ps : σ → List (Str × Value)) (stored : List Str) (m₀ : Str → Option Value) (Inv : σ → Prop) (Q : Flow → Shared → Prop) (f : Flow) (s₃ : Shared) : Prop :=
  match f with
  | .ret v => Q (.ret v) s₃
  | .brk => Q .next s₃
  | _ => ∃ (c : σ) (h' : Heap) (tk : Nat) (m' : Str → Option Value) (news' : List (Addr × Obj)), s₃ = { s with heap := h', toks := tk } ∧ Fr h₀ L h' m' ∧ News h₀ L h' news' ∧ (I, oI) ∈ news' ∧ (∀ p ∈ Led c, p ∈ news') ∧ (∀ p ∈ Led c, p.1 ≠ I) ∧
      (∀ p ∈ ps c, m' p.1 = some p.2) ∧ (∀ z, (∀ p ∈ ps c, z ≠ p.1) → stored.contains z = false → m' z = m₀ z) ∧ Inv c
theorem for_G {σ : Type} {x : Str} {px : Pos} {body : List Stmt} {Q : Flow → Shared → Prop} {m₀ : Str → Option Value} {I : Addr} {fp : List Addr} {n : Nat} {P : Nat → Value → Prop} {St : Nat → Heap → Prop} {S : List (Addr × Obj) → Prop}
    (Led : Nat → σ → List (Addr × Obj)) (ps : Nat → σ → List (Str × Value)) (Inv : Nat → σ → Prop) (stored : List Str) (c₀ : σ)
    (W : Walks prog w A I fp [I] n P St) (hIo : ∀ i h, St i h → ∃ o, h.get? I = some o)
    (hSt : ∀ i h h' o nw, St i h → h.get? I = some o → h'.get? I = some o → (∀ b o, h₀.get? b = some o → h'.get? b = some o) → News h₀ env.locals h' nw → S nw → St i h')
    (hx : env.kindOf x = some .local) (hp : (env.scope.kind == .class || (env.scope.kind == .module && env.locals != env.globals)) = false)
    (hLfp : env.locals ∉ fp) (hI₀ : h₀.get? I = none)
    (hst : St 0 s.heap) (F : Fr h₀ env.locals s.heap m₀) (N : News h₀ env.locals s.heap (Led 0 c₀)) (off : ∀ p ∈ Led 0 c₀, p.1 ≠ I) (hS : ∀ i c, Inv i c → S (Led i c)) (hk : ∀ p ∈ ps 0 c₀, m₀ p.1 = some p.2) (hi : Inv 0 c₀)
    (turn : ∀ (i : Nat) (c : σ) (u : Str → Option Value) v oI h tk E', i < n → Inv i c → P i v → Fr h₀ env.locals h (fun y => if y = x then some v else kstB (fun z => if stored.contains z then u z else m₀ z) (ps i c) y) →
      News h₀ env.locals h (Led i c ++ [(I, oI)]) → (∀ p ∈ Led i c, p.1 ≠ I) →
      wpAny (model prog w) A (execs body env) (ForTurn h₀ env.locals s I oI (Led (i + 1)) (ps (i + 1)) stored m₀ (Inv (i + 1)) Q) E' { s with heap := h, toks := tk })
    (done : ∀ (c : σ) (u : Str → Option Value) h tk, Inv n c → Fr h₀ env.locals h (kstB (fun z => if stored.contains z then u z else m₀ z) (ps n c)) → News h₀ env.locals h (Led n c) → Q .next { s with heap := h, toks := tk }) :
    ForG prog w A env x px body Q E (.ref I) s := by
  have hIL : env.locals ≠ I := fun e => hLfp (e ▸ W.sub I (List.mem_singleton.mpr rfl))
  refine codeAny_forLoop
    (fun k s' => ∃ h' tk m' i c, s' = { s with heap := h', toks := tk } ∧ i ≤ n ∧ k = n + 1 - i ∧ St i h' ∧ Fr h₀ env.locals h' m' ∧ News h₀ env.locals h' (Led i c) ∧ (∀ p ∈ Led i c, p.1 ≠ I) ∧ (∀ p ∈ ps i c, m' p.1 = some p.2) ∧ (∀ z, (∀ p ∈ ps i c, z ≠ p.1) → stored.contains z = false → m' z = m₀ z) ∧ Inv i c) ?_ (n + 1)
    ⟨s.heap, s.toks, m₀, 0, c₀, rfl, Nat.zero_le _, rfl, hst, F, N, off, hk, fun _ _ _ => rfl, hi⟩
  rintro k s' ⟨h', tk, m', i, c, rfl, hin, rfl, hst', F', N', off', hk', hr', hi'⟩
  by_cases hlt : i < n
  · refine W.item i _ _ _ hlt hst' fun v h₂ tk₂ hPv hst₂ hk₂ => ?_
    have F₂ := fr_but F' hk₂ hIL hI₀
    have N₂ := news_but N' hk₂ off'
    refine wpAny_assign_Name (wpAny_storeName_local hx F₂.ns (fun h₃ hn₃ hs₃ => ?_) hp)
    have F₃ := F₂.set hn₃ hs₃
    have N₃ := N₂.set hs₃
    have hst₃ : St (i + 1) h₃ := W.frame _ _ _ hst₂ fun b hb o e => hs₃.extBut b o (fun q => hLfp (q ▸ hb)) e
    obtain ⟨oI, heI⟩ := hIo _ _ hst₃
    have N₄ : News h₀ env.locals h₃ (Led i c ++ [(I, oI)]) := fun p hp => by
      rcases List.mem_append.mp hp with hp | hp
      · exact N₃ p hp
      · rw [List.mem_singleton.mp hp]; exact ⟨heI, Ne.symm hIL, hI₀⟩
    have em : kstB (fun z => if stored.contains z then m' z else m₀ z) (ps i c) = m' := by
      funext y
      refine kstB_eq hk' fun hn => ?_
      show (if stored.contains y = true then m' y else m₀ y) = m' y
      cases h3 : stored.contains y with
      | true => simp
      | false => simp only [Bool.false_eq_true, if_false]; exact (hr' y hn h3).symm
    rw [← em] at F₃
    refine wpAny_mono (turn i c m' v oI h₃ _ _ hlt hi' hPv F₃ N₄ off') (fun f s₃ h₅ => ?_) fun _ _ e => e
    have again : (∃ (c' : σ) (h' : Heap) (tk : Nat) (m' : Str → Option Value) (news' : List (Addr × Obj)), s₃ = { s with heap := h', toks := tk } ∧ Fr h₀ env.locals h' m' ∧ News h₀ env.locals h' news' ∧ (I, oI) ∈ news' ∧ (∀ p ∈ Led (i + 1) c', p ∈ news') ∧ (∀ p ∈ Led (i + 1) c', p.1 ≠ I) ∧
      (∀ p ∈ ps (i + 1) c', m' p.1 = some p.2) ∧ (∀ z, (∀ p ∈ ps (i + 1) c', z ≠ p.1) → stored.contains z = false → m' z = m₀ z) ∧ Inv (i + 1) c') → ∃ m, m < n + 1 - i ∧ ∃ h' tk m'' i c, s₃ = { s with heap := h', toks := tk } ∧ i ≤ n ∧ m = n + 1 - i ∧ St i h' ∧ Fr h₀ env.locals h' m'' ∧ News h₀ env.locals h' (Led i c) ∧ (∀ p ∈ Led i c, p.1 ≠ I) ∧ (∀ p ∈ ps i c, m'' p.1 = some p.2) ∧ (∀ z, (∀ p ∈ ps i c, z ≠ p.1) → stored.contains z = false → m'' z = m₀ z) ∧ Inv i c := by
      rintro ⟨c', h₆, tk₆, m₆, news₆, rfl, F₆, N₆, hI₆, sub₆, off₆, hk₆, hr₆, hi₆⟩
      have NL : News h₀ env.locals h₆ (Led (i + 1) c') := fun p hp => N₆ p (sub₆ p hp)
      exact ⟨n + 1 - (i + 1), by omega, h₆, tk₆, m₆, i + 1, c', rfl, hlt, rfl, hSt _ _ _ _ _ hst₃ heI (N₆ _ hI₆).1 F₆.keep NL (hS _ _ hi₆), F₆, NL, off₆, hk₆, hr₆, hi₆⟩
    cases f with
    | ret v => exact h₅
    | brk => exact h₅
    | cont => exact again h₅
    | next => exact again h₅
  · obtain rfl : i = n := Nat.le_antisymm hin (Nat.not_lt.mp hlt)
    refine W.done _ _ _ hst' fun h₂ tk₂ hk₂ => wpAny_execs_nil ?_
    exact done c m' h₂ tk₂ hi' (ksw_fr hk' hr' (fr_but F' hk₂ hIL hI₀)) (news_but N' hk₂ off')
noncomputable def ForBody {σ : Type} (prog : Program) (w : World) (A : Around) (h₀ : Heap) (env : Env) (x : Str) (body : List Stmt) (Q : Flow → Shared → Prop) (n : Nat) (P : Nat → Value → Prop) (Led : Nat → σ → List (Addr × Obj)) (ps : Nat → σ → List (Str × Value)) (Inv : Nat → σ → Prop) (stored : List Str) (m₀ : Str → Option Value) (s : Shared) : Prop :=
  ∀ (i : Nat) (c : σ) (u : Str → Option Value) (v : Value) (I : Addr) (oI : Obj) (h : Heap) (tk : Nat) (E' : Value → Shared → Prop), i < n → Inv i c → P i v → Fr h₀ env.locals h (fun y => if y = x then some v else kstB (fun z => if stored.contains z then u z else m₀ z) (ps i c) y) →
      News h₀ env.locals h (Led i c ++ [(I, oI)]) → (∀ p ∈ Led i c, p.1 ≠ I) →
      wpAny (model prog w) A (execs body env) (ForTurn h₀ env.locals s I oI (Led (i + 1)) (ps (i + 1)) stored m₀ (Inv (i + 1)) Q) E' { s with heap := h, toks := tk }
noncomputable def ForDone {σ : Type} (h₀ : Heap) (L : Addr) (Q : Flow → Shared → Prop) (n : Nat) (Led : Nat → σ → List (Addr × Obj)) (ps : Nat → σ → List (Str × Value)) (Inv : Nat → σ → Prop) (stored : List Str) (m₀ : Str → Option Value) (s : Shared) : Prop :=
  ∀ (c : σ) (u : Str → Option Value) (h : Heap) (tk : Nat), Inv n c → Fr h₀ L h (kstB (fun z => if stored.contains z then u z else m₀ z) (ps n c)) → News h₀ L h (Led n c) → Q .next { s with heap := h, toks := tk }
section
variable {σ : Type} {x : Str} {px : Pos} {body : List Stmt} {Q : Flow → Shared → Prop} {m₀ : Str → Option Value}
theorem for_list {D : Addr} {items : Array Value} (Led : Nat → σ → List (Addr × Obj)) (ps : Nat → σ → List (Str × Value)) (Inv : Nat → σ → Prop) (stored : List Str) (c₀ : σ)
    (hh : A.handled = none) (hx : env.kindOf x = some .local) (hp : (env.scope.kind == .class || (env.scope.kind == .module && env.locals != env.globals)) = false)
    (F : Fr h₀ env.locals s.heap m₀) (N : News h₀ env.locals s.heap (Led 0 c₀)) (hS : ∀ i c, Inv i c → SrcAt h₀ D items (Led i c)) (hk : ∀ p ∈ ps 0 c₀, m₀ p.1 = some p.2) (hi : Inv 0 c₀) (hDL : D ≠ env.locals)
    (turn : ∀ g, ForBody prog w A h₀ env x body Q items.size (fun i v => items[i]? = some v) Led ps Inv stored m₀ { s with heap := g })
    (done : ∀ g, ForDone h₀ env.locals Q items.size Led ps Inv stored m₀ { s with heap := g }) :
    wpAny (model prog w) A (pyIter (.ref D)) (fun it s₂ => ForG prog w A env x px body Q E it s₂) E s := by
  have hl : s.heap.IsList D items := (hS 0 c₀ hi).list F.keep N
  have hDlt : D < s.heap.objs.size := by obtain ⟨_, e, _⟩ := hl; exact Heap.lt_size e
  refine wpAny_pyIter_list hl ?_
  refine for_G (S := SrcAt h₀ D items) Led ps Inv stored c₀ (Walks.list hh s.heap.objs.size D (Nat.ne_of_lt hDlt) items) (fun i h st => (let ⟨⟨o, e, _⟩, _⟩ := st; ⟨o, e⟩)) ?_ hx hp ?_ (next_is_new F)
    ⟨⟨_, Heap.get?_push_size _ rfl, rfl, rfl⟩, hl.push _⟩ (F.keeps fun _ _ e => Heap.get?_push_of_some _ e) (N.grown fun _ _ e => Heap.get?_push_of_some _ e) (fun p hp => Nat.ne_of_lt (Heap.lt_size (N p hp).1)) hS hk hi
    (fun i c u v oI h tk E' => turn _ i c u v _ oI h tk E') (done _)
  · rintro i h h' o nw ⟨⟨o', q, r⟩, _⟩ e e' k N' hS'
    rw [e] at q; cases q
    exact ⟨⟨o, e', r⟩, hS'.list k N'⟩
  · intro hm
    rcases List.mem_cons.mp hm with e | hm
    · exact absurd F.ns.lt (by rw [e]; exact Nat.lt_irrefl _)
    · exact hDL (List.mem_singleton.mp hm).symm
theorem for_str {z : Str} {t : Tok} (Led : Nat → σ → List (Addr × Obj)) (ps : Nat → σ → List (Str × Value)) (Inv : Nat → σ → Prop) (stored : List Str) (c₀ : σ)
    (hh : A.handled = none) (hx : env.kindOf x = some .local) (hp : (env.scope.kind == .class || (env.scope.kind == .module && env.locals != env.globals)) = false)
    (ha : z.cps.all (· < 128) = true)
    (F : Fr h₀ env.locals s.heap m₀) (N : News h₀ env.locals s.heap (Led 0 c₀)) (hk : ∀ p ∈ ps 0 c₀, m₀ p.1 = some p.2) (hi : Inv 0 c₀)
    (turn : ∀ g, ForBody prog w A h₀ env x body Q z.cps.size (SignAt z) Led ps Inv stored m₀ { s with heap := g })
    (done : ∀ g, ForDone h₀ env.locals Q z.cps.size Led ps Inv stored m₀ { s with heap := g }) :
    wpAny (model prog w) A (pyIter (.str z t)) (fun it s₂ => ForG prog w A env x px body Q E it s₂) E s := by
  refine wpAny_pyIter_ascii ha ?_
  refine for_G (S := fun _ => True) Led ps Inv stored c₀ (Walks.strAscii hh s.heap.objs.size z t) (fun i h st => (let ⟨o, e, _⟩ := st; ⟨o, e⟩)) ?_ hx hp ?_ (next_is_new F)
    ⟨_, Heap.get?_push_size _ rfl, rfl, rfl⟩ (F.keeps fun _ _ e => Heap.get?_push_of_some _ e) (N.grown fun _ _ e => Heap.get?_push_of_some _ e) (fun p hp => Nat.ne_of_lt (Heap.lt_size (N p hp).1)) (fun _ _ _ => trivial) hk hi
    (fun i c u v oI h tk E' => turn _ i c u v _ oI h tk E') (done _)
  · rintro i h h' o nw ⟨o', q, r⟩ e e' _ _ _
    rw [e] at q; cases q; exact ⟨o, e', r⟩
  · intro hm
    exact absurd F.ns.lt (by rw [List.mem_singleton.mp hm]; exact Nat.lt_irrefl _)
theorem for_range {r : Addr} {a b : Int} {t u v : Tok} {n : Nat} (Led : Nat → σ → List (Addr × Obj)) (ps : Nat → σ → List (Str × Value)) (Inv : Nat → σ → Prop) (stored : List Str) (c₀ : σ)
    (hh : A.handled = none) (hx : env.kindOf x = some .local) (hp : (env.scope.kind == .class || (env.scope.kind == .module && env.locals != env.globals)) = false)
    (hr : IsRange s.heap r a b 1 t u v) (hsm : Builtin.Range.small a b 1 = true) (hn : Builtin.Range.rangeSize a b 1 = ((n : Nat) : Int))
    (F : Fr h₀ env.locals s.heap m₀) (N : News h₀ env.locals s.heap (Led 0 c₀)) (hk : ∀ p ∈ ps 0 c₀, m₀ p.1 = some p.2) (hi : Inv 0 c₀)
    (turn : ∀ g, ForBody prog w A h₀ env x body Q n (fun i v => ∃ t, v = .int (a + (i : Int)) t) Led ps Inv stored m₀ { s with heap := g })
    (done : ∀ g, ForDone h₀ env.locals Q n Led ps Inv stored m₀ { s with heap := g }) :
    wpAny (model prog w) A (pyIter (.ref r)) (fun it s₂ => ForG prog w A env x px body Q E it s₂) E s := by
  refine wpAny_pyIter_range hr hsm ?_
  refine for_G (S := fun _ => True) Led ps Inv stored c₀ (range_walks (I := s.heap.objs.size) hh a n) (fun i h st => ⟨_, st⟩) range_st hx hp ?_ (next_is_new F)
    (by show IsRangeIter _ _ _ _ _; rw [hn]; simpa using Heap.get?_push_size _ rfl) (F.keeps fun _ _ e => Heap.get?_push_of_some _ e) (N.grown fun _ _ e => Heap.get?_push_of_some _ e) (fun p hp => Nat.ne_of_lt (Heap.lt_size (N p hp).1)) (fun _ _ _ => trivial) hk hi
    (fun i c u v oI h tk E' => turn _ i c u v _ oI h tk E') (done _)
  intro hm
  exact absurd F.ns.lt (by rw [List.mem_singleton.mp hm]; exact Nat.lt_irrefl _)
end
end
theorem for_end {σ : Type} {h₀ : Heap} {L : Addr} {s : Shared} {I : Addr} {oI : Obj} {Led : σ → List (Addr × Obj)} {ps : σ → List (Str × Value)} {stored : List Str} {m₀ m' : Str → Option Value} {Inv : σ → Prop} {Q : Flow → Shared → Prop} {h' : Heap} {tk : Nat} {news' : List (Addr × Obj)} (c : σ)
    (F : Fr h₀ L h' m') (N : News h₀ L h' news') (hI : (I, oI) ∈ news') (hn : ∀ p ∈ Led c, p ∈ news') (off : ∀ p ∈ Led c, p.1 ≠ I) (hk : ∀ p ∈ ps c, m' p.1 = some p.2) (hr : ∀ z, (∀ p ∈ ps c, z ≠ p.1) → stored.contains z = false → m' z = m₀ z) (hi : Inv c) :
    ForTurn h₀ L s I oI Led ps stored m₀ Inv Q .next { s with heap := h', toks := tk } := ⟨c, h', tk, m', news', rfl, F, N, hI, hn, off, hk, hr, hi⟩
/-- an element's end -/
noncomputable def ElV (news : List (Addr × Obj)) (V : Value → Prop) (y : Value) (news' : List (Addr × Obj)) : Prop := news' = news ∧ V y
section
variable {prog : Program} {w : World} {A : Around} {E : Value → Shared → Prop} {s : Shared} {h₀ : Heap} {L : Addr} {m : Str → Option Value} {env : Env}
theorem rest_inv {elt : Expr} {x : Str} {scope : Scope} {cl : List (Str × Addr)} {S : List (Addr × Obj) → Prop} {P : Nat → Value → Prop} {Fin : List Value → List (Addr × Obj) → Prop} {n : Nat} {news : List (Addr × Obj)} (V : Nat → Value → Prop)
    (turn : ∀ (i : Nat) v ys I oI C oC D m₂ h tk (E' : Value → Shared → Prop), i < n → P i v → NsObj oC m₂ → m₂ x = some v → Fr h₀ L h m → News h₀ L h ((I, oI) :: (C, oC) :: (D, lst ys) :: news) → Off3 I C D news → ((@Ne Nat I C) ∧ (@Ne Nat I D) ∧ (@Ne Nat C D)) →
      wpAny (model prog w) A (eval elt (compEnvC scope cl C env)) (CompEnd h₀ L m { s with heap := h, toks := tk } I oI C oC D (lst ys) S (ElV news (V i))) E' { s with heap := h, toks := tk })
    (fin : ∀ ys, ys.length = n → (∀ i y, ys[i]? = some y → V i y) → Fin ys news) : CompRest prog w A h₀ L m env elt x scope cl s S P Fin n 0 [] news := by
  have key : ∀ (j i : Nat) (ys : List Value), i + j = n → ys.length = i → (∀ k y, ys[k]? = some y → V k y) → CompRest prog w A h₀ L m env elt x scope cl s S P Fin j i ys news := by
    intro j
    induction j with
    | zero => intro i ys hi hl hV; exact CompRest.zero (fin ys (by omega) hV)
    | succ j ih =>
      intro i ys hi hl hV
      refine CompRest.succ ?_
      intro v I oI C oC D m₂ h tk E' hv hC hx F N off ne
      refine wpAny_mono (turn i v ys I oI C oC D m₂ h tk E' (by omega) hv hC hx F N off ne) (fun y s₂ hq => ?_) fun _ _ e => e
      obtain ⟨h', tk', nw, e, F', N', off', hS, hn, hVy⟩ := hq
      subst hn
      refine ⟨h', tk', nw, e, F', N', off', hS, ih (i + 1) _ (by omega) (by simp [hl]) fun k y' hk => ?_⟩
      rcases Nat.lt_or_ge k i with hki | hki
      · rw [List.getElem?_append_left (by omega)] at hk; exact hV k y' hk
      · rw [List.getElem?_append_right (by omega)] at hk
        have : k = i := by
          rcases Nat.eq_or_lt_of_le hki with e | e
          · exact e.symm
          · rw [List.getElem?_eq_none (by simp; omega)] at hk; cases hk
        subst this
        rw [hl, Nat.sub_self] at hk
        cases hk
        exact hVy
  exact key n 0 [] (by omega) rfl fun k y hk => by simp at hk
theorem src_list {elt : Expr} {x : Str} {scope : Scope} {cl : List (Str × Addr)} {Fin : Shared → List Value → List (Addr × Obj) → Prop} {D : Addr} {items : Array Value} {news : List (Addr × Obj)}
    (hh : A.handled = none) (F : Fr h₀ L s.heap m) (N : News h₀ L s.heap news) (hS : SrcAt h₀ D items news) (hsz : items.size ≤ sizeLine)
    (h : ∀ g, CompRest prog w A h₀ L m env elt x scope cl { s with heap := g } (SrcAt h₀ D items) (fun i v => items[i]? = some v) (Fin { s with heap := g }) items.size 0 [] news) :
    wpAny (model prog w) A (pyIter (.ref D)) (SrcG prog w A h₀ L m env elt x scope cl Fin) E s := by
  have hl : s.heap.IsList D items := hS.list F.keep N
  have hDlt : D < s.heap.objs.size := by obtain ⟨_, e, _⟩ := hl; exact Heap.lt_size e
  refine wpAny_pyIter_list hl ?_
  refine ⟨_, _, _, _, _, SrcAt h₀ D items, news, rfl, Walks.list hh s.heap.objs.size D (Nat.ne_of_lt hDlt) items, hsz, fun i h st => (let ⟨⟨o, e, _⟩, _⟩ := st; ⟨o, e⟩), ?_, ⟨⟨_, Heap.get?_push_size _ rfl, rfl, rfl⟩, hl.push _⟩, fun b hb => ?_, F.keeps fun _ _ e => Heap.get?_push_of_some _ e, N.grown fun _ _ e => Heap.get?_push_of_some _ e, Nat.ne_of_lt F.ns.lt, next_is_new F, fun p hp => Nat.ne_of_lt (Heap.lt_size (N p hp).1), hS, h _⟩
  · rintro i h h' o nw ⟨⟨o', q, r⟩, _⟩ e e' k N' hS'
    rw [e] at q; cases q
    exact ⟨⟨o, e', r⟩, hS'.list k N'⟩
  · show b < (s.heap.push _).objs.size
    rw [Heap.size_push]
    rcases List.mem_cons.mp hb with e | hb
    · rw [e]; exact Nat.lt_succ_self _
    · rw [List.mem_singleton.mp hb]; exact Nat.lt_succ_of_lt hDlt
theorem src_up {elt : Expr} {x : Str} {scope : Scope} {cl : List (Str × Addr)} {Fin : Shared → List Value → List (Addr × Obj) → Prop} {r : Addr} {a b : Int} {t u v : Tok} {n : Nat} {news : List (Addr × Obj)}
    (hh : A.handled = none) (F : Fr h₀ L s.heap m) (N : News h₀ L s.heap news) (hr : IsRange s.heap r a b 1 t u v) (hsm : Builtin.Range.small a b 1 = true) (hn : Builtin.Range.rangeSize a b 1 = ((n : Nat) : Int)) (hsz : n ≤ sizeLine)
    (h : ∀ g, CompRest prog w A h₀ L m env elt x scope cl { s with heap := g } (fun _ => True) (fun i v => ∃ t, v = .int (a + (i : Int)) t) (Fin { s with heap := g }) n 0 [] news) :
    wpAny (model prog w) A (pyIter (.ref r)) (SrcG prog w A h₀ L m env elt x scope cl Fin) E s := by
  refine wpAny_pyIter_range hr hsm ?_
  refine ⟨_, _, n, _, _, fun _ => True, news, rfl, range_walks (I := s.heap.objs.size) hh a n, hsz, fun i h st => ⟨_, st⟩, range_st, by show IsRangeIter _ _ _ _ _; rw [hn]; simpa using Heap.get?_push_size _ rfl, fun b hb => ?_, F.keeps fun _ _ e => Heap.get?_push_of_some _ e, N.grown fun _ _ e => Heap.get?_push_of_some _ e, Nat.ne_of_lt F.ns.lt, next_is_new F, fun p hp => Nat.ne_of_lt (Heap.lt_size (N p hp).1), trivial, h _⟩
  rw [List.mem_singleton.mp hb]
  show s.heap.objs.size < (s.heap.push _).objs.size
  rw [Heap.size_push]; exact Nat.lt_succ_self _
end
/-- the i-th of ls, as a text -/
noncomputable def StrAt (ls : List (List Nat)) (i : Nat) (v : Value) : Prop := ∃ a t, ls[i]? = some a ∧ v = .str (S a) t
theorem strs_at : ∀ {ys : List Value} {ls : List (List Nat)}, ys.length = ls.length → (∀ i y, ys[i]? = some y → StrAt ls i y) → StrsAre ys (ls.map S)
  | [], [], _, _ => .nil
  | [], _ :: _, h, _ => by simp at h
  | _ :: _, [], h, _ => by simp at h
  | y :: ys, a :: ls, h, hV => by
    obtain ⟨b, t, e, rfl⟩ := hV 0 y rfl
    cases e
    exact .cons _ _ (strs_at (by simpa using h) fun i y hy => hV (i + 1) y hy)
theorem strs_get : ∀ {ys : List Value} {ls : List (List Nat)}, StrsAre ys (ls.map S) → ∀ i y, ys[i]? = some y → StrAt ls i y
  | _, [], h, i, y, hy => by cases h; simp at hy
  | _, a :: ls, h, i, y, hy => by
    cases h with
    | cons _ t h =>
      cases i with
      | zero => cases hy; exact ⟨a, t, rfl, rfl⟩
      | succ i => exact strs_get h i y hy
theorem strs_len : ∀ {ys : List Value} {ls : List (List Nat)}, StrsAre ys (ls.map S) → ys.length = ls.length
  | _, [], h => by cases h; rfl
  | _, a :: ls, h => by
    cases h with
    | cons _ t h => simp [strs_len h]
theorem strs_snoc {y : List Nat} {t : Tok} : ∀ {vs : List Value} {ys : List (List Nat)}, StrsAre vs (ys.map S) → StrsAre (vs ++ [.str (S y) t]) ((ys ++ [y]).map S)
  | _, [], h => by cases h; exact .cons _ _ .nil
  | _, a :: ys, h => by
    cases h with
    | cons _ u h => exact .cons _ _ (strs_snoc h)
theorem strs_set {y : List Nat} {t : Tok} : ∀ {vs : List Value} {ys : List (List Nat)} {j : Nat}, StrsAre vs (ys.map S) → StrsAre (vs.set j (.str (S y) t)) ((ys.set j y).map S)
  | _, [], j, h => by cases h; exact .nil
  | _, a :: ys, 0, h => by
    cases h with
    | cons _ u h => exact .cons _ _ h
  | _, a :: ys, j + 1, h => by
    cases h with
    | cons _ u h => exact .cons _ _ (strs_set h)
end Mine
end
section
open PySem PySem.W PySem.Calls PyProof.Rows
set_option maxRecDepth 100000
set_option maxHeartbeats 8000000
namespace Mine
theorem ints_at : ∀ {ys : List Value} {ls : List Int}, ys.length = ls.length → (∀ (i : Nat) (y : Value), ys[i]? = some y → ∃ (x : Int) (t : Tok), ls[i]? = some x ∧ y = Value.int x t) → IntsAre ys ls
  | [], [], _, _ => .nil
  | [], _ :: _, h, _ => by simp at h
  | _ :: _, [], h, _ => by simp at h
  | y :: ys, a :: ls, h, hV => by
    obtain ⟨b, t, e, rfl⟩ := hV 0 y rfl
    cases e
    exact .cons _ _ (ints_at (by simpa using h) fun i y hy => hV (i + 1) y hy)
theorem ints_app : ∀ {vs ws : List Value} {l k : List Int}, IntsAre vs l → IntsAre ws k → IntsAre (vs ++ ws) (l ++ k)
  | _, _, [], _, h, h' => by cases h; exact h'
  | _, _, _ :: _, _, h, h' => by cases h with | cons _ t h => exact .cons _ t (ints_app h h')
theorem for_end_c {σ : Type} {h₀ : Heap} {L : Addr} {s : Shared} {I : Addr} {oI : Obj} {Led : σ → List (Addr × Obj)} {ps : σ → List (Str × Value)} {stored : List Str} {m₀ m' : Str → Option Value} {Inv : σ → Prop} {Q : Flow → Shared → Prop} {h' : Heap} {tk : Nat} {news' : List (Addr × Obj)} (c : σ)
    (F : Fr h₀ L h' m') (N : News h₀ L h' news') (hI : (I, oI) ∈ news') (hn : ∀ p ∈ Led c, p ∈ news') (off : ∀ p ∈ Led c, p.1 ≠ I) (hk : ∀ p ∈ ps c, m' p.1 = some p.2) (hr : ∀ z, (∀ p ∈ ps c, z ≠ p.1) → stored.contains z = false → m' z = m₀ z) (hi : Inv c) :
    ForTurn h₀ L s I oI Led ps stored m₀ Inv Q .cont { s with heap := h', toks := tk } := ⟨c, h', tk, m', news', rfl, F, N, hI, hn, off, hk, hr, hi⟩
theorem ints_snoc {vs : List Value} {l : List Int} (h : IntsAre vs l) (x : Int) (t : Tok) : IntsAre (vs ++ [Value.int x t]) (l ++ [x]) := ints_app h (.cons x t .nil)
section
variable {prog : Program} {w : World} {A : Around} {E : Value → Shared → Prop} {s : Shared} {h₀ : Heap} {env : Env} {σ : Type} {x : Str} {px : Pos} {body : List Stmt} {Q : Flow → Shared → Prop} {m₀ : Str → Option Value}
theorem for_bytes {b : Array UInt8} {t : Tok} {l : List Int} (Led : Nat → σ → List (Addr × Obj)) (ps : Nat → σ → List (Str × Value)) (Inv : Nat → σ → Prop) (stored : List Str) (c₀ : σ)
    (hh : A.handled = none) (hx : env.kindOf x = some .local) (hp : (env.scope.kind == .class || (env.scope.kind == .module && env.locals != env.globals)) = false) (hb : KBw.bInts b = l)
    (F : Fr h₀ env.locals s.heap m₀) (N : News h₀ env.locals s.heap (Led 0 c₀)) (hk : ∀ p ∈ ps 0 c₀, m₀ p.1 = some p.2) (hi : Inv 0 c₀)
    (turn : ∀ g, ForBody prog w A h₀ env x body Q l.length (fun i v => ∃ u, v = .int (l.getD i 0) u) Led ps Inv stored m₀ { s with heap := g })
    (done : ∀ g, ForDone h₀ env.locals Q l.length Led ps Inv stored m₀ { s with heap := g }) :
    wpAny (model prog w) A (pyIter (.bytes b t)) (fun it s₂ => ForG prog w A env x px body Q E it s₂) E s := by
  refine KBw.pyIter_bytes ?_
  have hn : l.length = b.size := by rw [← hb, KBw.ints_length]
  rw [hn] at turn done
  refine for_G (S := fun _ => True) Led ps Inv stored c₀ (KBw.walks hh s.heap.objs.size b t) (fun i h st => (let ⟨o, e, _⟩ := st; ⟨o, e⟩)) ?_ hx hp ?_ (next_is_new F)
    ⟨_, Heap.get?_push_size _ rfl, rfl, rfl⟩ (F.keeps fun _ _ e => Heap.get?_push_of_some _ e) (N.grown fun _ _ e => Heap.get?_push_of_some _ e) (fun p hp => Nat.ne_of_lt (Heap.lt_size (N p hp).1)) (fun _ _ _ => trivial) hk hi
    (fun i c u v oI h tk E' hi hc hv => turn _ i c u v _ oI h tk E' hi hc ?_) (done _)
  · rintro i h h' o nw ⟨o', q, r⟩ e e' _ _ _
    rw [e] at q; cases q; exact ⟨o, e', r⟩
  · intro hm
    exact absurd F.ns.lt (by rw [List.mem_singleton.mp hm]; exact Nat.lt_irrefl _)
  · obtain ⟨c0, u0, hc0, rfl⟩ := hv
    have := KBw.ints_get hc0
    rw [hb] at this
    exact ⟨u0, by rw [List.getD, this]; rfl⟩
end
section
variable {prog : Program} {w : World} {A : Around} {E : Value → Shared → Prop} {Q : Flow → Shared → Prop} {s : Shared} {env : Env} {h₀ : Heap} {L : Addr}
/-- ksw_while, the turn's end under a name -/
theorem ksw_whileL {σ : Type} {test : Expr} {body : List Stmt} {pos : Pos} {m₀ : Str → Option Value} (Led : σ → List (Addr × Obj)) (ps : σ → List (Str × Value)) (Facts : σ → Prop) (stored : List Str) (P : σ → Prop) (μ : σ → Nat) (c₀ : σ)
    (F : Fr h₀ L s.heap m₀) (N : News h₀ L s.heap (Led c₀)) (hf : Facts c₀) (hk : ∀ p ∈ ps c₀, m₀ p.1 = some p.2) (hp : P c₀)
    (turn : ∀ (c : σ) (u : Str → Option Value) h tk, Facts c → P c → Fr h₀ L h (kstB (fun z => if stored.contains z then u z else m₀ z) (ps c)) → News h₀ L h (Led c) →
      let QQ := KswPost h₀ L s Led ps Facts stored m₀ P μ Q c
      wpAny (model prog w) A (isTrue test env (eval test env)) (fun b s₂ => if b = true then wpAny (model prog w) A (execs body env) QQ E s₂ else Q .next s₂) E { s with heap := h, toks := tk })
    (hE : PassesOwn (model prog w) A env E) :
    wpAny (model prog w) A (exec (.While test body [] pos) env) Q E s := ksw_while Led ps Facts stored P μ c₀ F N hf hk hp turn hE
end
end Mine
end
section
open PySem PySem.W PySem.Calls PyProof.Rows
set_option maxRecDepth 100000
set_option maxHeartbeats 8000000
namespace Mine
open LCg LCt
theorem sum_getD : ∀ (ls : List (List Nat)) (i : Nat), (ls.getD i []).length ≤ (ls.map List.length).sum
  | [], _ => by simp
  | a :: r, 0 => by simp
  | a :: r, i + 1 => by have := sum_getD r i; simp only [List.getD_cons_succ, List.map_cons, List.sum_cons]; omega
theorem sum_drop : ∀ (ls : List (List Nat)) (i : Nat), ((ls.drop i).map List.length).sum ≤ (ls.map List.length).sum
  | [], _ => by simp
  | a :: r, 0 => by simp
  | a :: r, i + 1 => by have := sum_drop r i; simp only [List.drop_succ_cons, List.map_cons, List.sum_cons]; omega
theorem sum_take : ∀ (ls : List (List Nat)) (i : Nat), ((ls.take i).map List.length).sum ≤ (ls.map List.length).sum
  | [], _ => by simp
  | a :: r, 0 => by simp
  | a :: r, i + 1 => by have := sum_take r i; simp only [List.take_succ_cons, List.map_cons, List.sum_cons]; omega
section
variable {prog : Program} {w : World} {A : Around} {E : Value → Shared → Prop} {s : Shared} {h₀ : Heap} {L D : Addr} {m : Str → Option Value} {news : List (Addr × Obj)} {vs : List Value} {ls : List (List Nat)} {Q : Value → Shared → Prop}
theorem len_SL (hl : s.heap.IsList D vs.toArray) (hi : StrsAre vs (ls.map S)) (hz : ls.length ≤ 100000) (h : ∀ t k, Q (.int (ls.length : Int) t) { s with toks := k }) : wpAny (model prog w) A (call (.builtin "len") [.ref D]) Q E s := by
  have e := strs_len hi
  refine len_list hl (by simp; omega) ?_
  rw [show ((vs.toArray.size : Nat) : Int) = (ls.length : Int) by simp [e]]
  exact h _ _
theorem item_SL {value slice : PySem.Expr} {k : Int} {u : Tok} (hl : s.heap.IsList D vs.toArray) (hi : StrsAre vs (ls.map S)) (hz : ls.length ≤ 100000) (h0 : 0 ≤ k) (h1 : k < (ls.length : Int)) (h : ∀ t, Q (.str (S (ls.getD k.toNat [])) t) s)
    (hs : subscripted slice false (.ref D) (.int k u) = operate [.ref D, .int k u] (getItem (.ref D) (.int k u)) := by with_unfolding_all rfl) (hg : ∀ r, letTemporaryGo value (.ref D) r = pure () := by intro _; with_unfolding_all rfl) :
    wpAny (model prog w) A (subscriptTail value slice (.ref D) (.int k u)) Q E s := by
  have hk : k.toNat < vs.length := by rw [strs_len hi]; exact tn_lt h0 h1
  obtain ⟨a, t, e, ev⟩ := strs_get hi k.toNat vs[k.toNat] (List.getElem?_eq_getElem hk)
  refine item_listL hl h0 (by omega) (List.getElem?_eq_getElem hk) ?_ hs hg
  rw [ev]
  have : ls.getD k.toNat [] = a := by simp [List.getD, e]
  rw [← this]; exact h t
theorem item_SLn {value slice : PySem.Expr} {u : Tok} (hl : s.heap.IsList D vs.toArray) (hi : StrsAre vs (ls.map S)) (hz : ls.length ≤ 100000) (h1 : 1 ≤ ls.length) (h : ∀ t, Q (.str (S (ls.getD (ls.length - 1) [])) t) s)
    (hs : subscripted slice false (.ref D) (.int (-1) u) = operate [.ref D, .int (-1) u] (getItem (.ref D) (.int (-1) u)) := by with_unfolding_all rfl) (hg : ∀ r, letTemporaryGo value (.ref D) r = pure () := by intro _; with_unfolding_all rfl) :
    wpAny (model prog w) A (subscriptTail value slice (.ref D) (.int (-1) u)) Q E s := by
  have hlen := strs_len hi
  have hk : ls.length - 1 < vs.length := by rw [strs_len hi]; exact Nat.sub_lt h1 (by decide)
  obtain ⟨a, t, e, ev⟩ := strs_get hi (ls.length - 1) vs[ls.length - 1] (List.getElem?_eq_getElem hk)
  refine subscriptTail_builtin hl.typeIs slot_list_getitem.lookup (wpAny_getItem_list_neg hl (by decide) (by simp; omega) (by decide) (x := vs[ls.length - 1]) ?_ ?_) hs hg
  · have e2 : ((-1 : Int) + (vs.toArray.size : Int)).toNat = ls.length - 1 := by rw [List.size_toArray, strs_len hi]; exact last_tn h1
    rw [e2]; simp [hk]
  · rw [ev]
    have : ls.getD (ls.length - 1) [] = a := by simp [List.getD, e]
    rw [← this]; exact h t
theorem slice_mid {value slice : PySem.Expr} {t1 t2 : Tok} (F : Fr h₀ L s.heap m) (N : News h₀ L s.heap news) (hl : s.heap.IsList D vs.toArray) (hi : StrsAre vs (ls.map S)) (hz : ls.length ≤ 100000) (h1 : 1 ≤ ls.length)
    (h : ∀ D' h' vs', StrsAre vs' (((ls.drop 1).take (ls.length - 2)).map S) → Fr h₀ L h' m → News h₀ L h' ((D', listOf vs'.toArray 0) :: news) → (∀ p ∈ news, p.1 < D') → Q (.ref D') { s with heap := h' })
    (hs : subscripted slice false (.ref D) (.ref s.heap.objs.size) = operate [.ref s.heap.objs.size, .ref D] (getItem (.ref D) (.ref s.heap.objs.size)) := by with_unfolding_all rfl) (ht : ∀ r, letTemporaryGo value (.ref D) r = pure () := by intro _; with_unfolding_all rfl) :
    wpAny (model prog w) A (subscriptTail value slice (.ref D) (.ref s.heap.objs.size)) Q E { s with heap := s.heap.push { cls := .type "slice", data := .fields #[.int 1 t1, .int (-1) t2, .none] } } := by
  have hlen := strs_len hi
  refine kms_slice_lit (lo := some 1) (hi := some (-1)) F N hl (.int _ _) (.int _ _) rfl (fun D' h' F' N' l1 => h D' h' _ ?_ F' N' l1) hs ht (by rw [sizeLine_eq]; simp; omega)
  have e : kms_pick vs.toArray.toList (some 1) (some (-1)) = (vs.drop 1).take (ls.length - 2) := by
    have a1 : kms_lo (some 1) vs.toArray.toList.length = 1 := by simp [kms_lo]; omega
    have a2 : kms_hi (some (-1)) vs.toArray.toList.length = ls.length - 1 := by simp [kms_hi]; rw [hlen]
    unfold kms_pick
    rw [a1, a2, show ls.length - 1 - 1 = ls.length - 2 from Nat.sub_sub ls.length 1 1]
  rw [e, List.map_take, List.map_drop]
  exact (hi.drop' 1).take' _
theorem src_SL {env : Env} {elt : Expr} {x : Str} {scope : Scope} {cl : List (Str × Addr)} {Fin : Shared → List Value → List (Addr × Obj) → Prop}
    (hh : A.handled = none) (F : Fr h₀ L s.heap m) (N : News h₀ L s.heap news) (hS : SrcAt h₀ D vs.toArray news) (hsz : vs.length ≤ 100000)
    (h : ∀ g, CompRest prog w A h₀ L m env elt x scope cl { s with heap := g } (SrcAt h₀ D vs.toArray) (fun i v => vs[i]? = some v) (Fin { s with heap := g }) vs.length 0 [] news) :
    wpAny (model prog w) A (pyIter (.ref D)) (SrcG prog w A h₀ L m env elt x scope cl Fin) E s :=
  src_list hh F N hS (by rw [sizeLine_eq]; simp; omega) fun g => by
    have := h g
    have e : (fun (i : Nat) v => vs.toArray[i]? = some v) = (fun (i : Nat) v => vs[i]? = some v) := by funext i v; simp
    rw [e, List.size_toArray]
    exact this
end
/-- the pieces: the star's value, or a text -/
inductive PsAre (st : Value) : List Value → List (Option (List Nat)) → Prop
  | nil : PsAre st [] []
  | star {vs ps} : PsAre st vs ps → PsAre st (st :: vs) (none :: ps)
  | str (p t) {vs ps} : PsAre st vs ps → PsAre st (.str (S p) t :: vs) (some p :: ps)
theorem ps_get {st : Value} : ∀ {vs : List Value} {ps : List (Option (List Nat))}, PsAre st vs ps → ∀ (i : Nat) (v : Value), vs[i]? = some v → (ps[i]? = some none ∧ v = st) ∨ ∃ p t, ps[i]? = some (some p) ∧ v = .str (S p) t
  | _, _, .nil, i, v, h => by simp at h
  | _, _, .star h, 0, v, e => .inl ⟨rfl, (Option.some.inj e).symm⟩
  | _, _, .str p t h, 0, v, e => .inr ⟨p, t, rfl, (Option.some.inj e).symm⟩
  | _, _, .star h, i + 1, v, e => ps_get h i v e
  | _, _, .str p t h, i + 1, v, e => ps_get h i v e
theorem ps_len {st : Value} : ∀ {vs : List Value} {ps : List (Option (List Nat))}, PsAre st vs ps → vs.length = ps.length
  | _, _, .nil => rfl
  | _, _, .star h => by simp [ps_len h]
  | _, _, .str p t h => by simp [ps_len h]
theorem ps_snoc_star {st : Value} : ∀ {vs : List Value} {ps : List (Option (List Nat))}, PsAre st vs ps → PsAre st (vs ++ [st]) (ps ++ [none])
  | _, _, .nil => .star .nil
  | _, _, .star h => .star (ps_snoc_star h)
  | _, _, .str p t h => .str p t (ps_snoc_star h)
theorem ps_snoc_str {st : Value} {q : List Nat} {u : Tok} : ∀ {vs : List Value} {ps : List (Option (List Nat))}, PsAre st vs ps → PsAre st (vs ++ [.str (S q) u]) (ps ++ [some q])
  | _, _, .nil => .str q u .nil
  | _, _, .star h => .star (ps_snoc_str h)
  | _, _, .str p t h => .str p t (ps_snoc_str h)
section
variable {prog : Program} {w : World} {A : Around} {E : Value → Shared → Prop} {s : Shared} {h₀ : Heap} {L : Addr} {m : Str → Option Value} {env : Env}
theorem restT_inv {ct elt : PySem.Expr} {x : Str} {scope : Scope} {cl : List (Str × Addr)} {Sx : List (Addr × Obj) → Prop} {P : Nat → Value → Prop} {Fin : List Value → List (Addr × Obj) → Prop} {n : Nat} {news : List (Addr × Obj)} (V : Nat → List Value → Prop)
    (turn : ∀ (i : Nat) v ys I oI C oC D m₂ h tk (E' : Value → Shared → Prop), i < n → P i v → V i ys → NsObj oC m₂ → m₂ x = some v → Fr h₀ L h m → News h₀ L h ((I, oI) :: (C, oC) :: (D, lst ys) :: news) → Off3 I C D news → ((@Ne Nat I C) ∧ (@Ne Nat I D) ∧ (@Ne Nat C D)) →
      wpAny (model prog w) A (isTrue ct (compEnvC scope cl C env) (eval ct (compEnvC scope cl C env))) (fun ok s' => if ok = true then
        wpAny (model prog w) A (eval elt (compEnvC scope cl C env)) (CompEnd h₀ L m { s with heap := h, toks := tk } I oI C oC D (lst ys) Sx (ElV news (fun y => V (i + 1) (ys ++ [y])))) E' s'
        else CompEnd h₀ L m { s with heap := h, toks := tk } I oI C oC D (lst ys) Sx (ElV news (fun _ => V (i + 1) ys)) Value.none s') E' { s with heap := h, toks := tk })
    (h0 : V 0 []) (fin : ∀ ys, V n ys → Fin ys news) : CompRestT prog w A h₀ L m env ct elt x scope cl s Sx P Fin n 0 [] news := by
  have key : ∀ (j i : Nat) (ys : List Value), i + j = n → V i ys → CompRestT prog w A h₀ L m env ct elt x scope cl s Sx P Fin j i ys news := by
    intro j
    induction j with
    | zero => intro i ys hi hV; have : i = n := by omega
              subst this; exact CompRestT.zero (fin ys hV)
    | succ j ih =>
      intro i ys hi hV
      refine CompRestT.succ ?_
      intro v I oI C oC D m₂ h tk E' hv hC hx F N off ne
      refine wpAny_mono (turn i v ys I oI C oC D m₂ h tk E' (by omega) hv hV hC hx F N off ne) (fun ok s₂ hq => ?_) fun _ _ e => e
      cases ok with
      | true =>
        simp only [if_true] at hq ⊢
        refine wpAny_mono hq (fun y s₃ hq => ?_) fun _ _ e => e
        obtain ⟨h', tk', nw, e, F', N', off', hS, hn, hVy⟩ := hq
        subst hn
        exact ⟨h', tk', nw, e, F', N', off', hS, ih (i + 1) _ (by omega) hVy⟩
      | false =>
        simp only [Bool.false_eq_true, if_false] at hq ⊢
        obtain ⟨h', tk', nw, e, F', N', off', hS, hn, hVy⟩ := hq
        subst hn
        exact ⟨h', tk', nw, e, F', N', off', hS, ih (i + 1) _ (by omega) hVy⟩
  exact key n 0 [] (by omega) h0
theorem item_Sn {value slice : PySem.Expr} {x : PySem.Str} {a : List Nat} {t u : Tok} {Q : Value → Shared → Prop} (hx : x = S a) (h1 : 1 ≤ a.length) (hsz : a.length ≤ 1000000) (h : ∀ t' k, Q (.str (S [a.getD (a.length - 1) 0]) t') { s with toks := k })
    (hs : subscripted slice false (.str x t) (.int (-1) u) = operate [.str x t, .int (-1) u] (getItem (.str x t) (.int (-1) u)) := by with_unfolding_all rfl)
    (ht : ∀ r, letTemporaryGo value (.str x t) r = pure () := by intro _; with_unfolding_all rfl) :
    wpAny (model prog w) A (subscriptTail value slice (.str x t) (.int (-1) u)) Q E s := by
  subst hx
  refine tail_of_ItemOn ⟨"str", _, F.slot_str_getitem.lookup, typeIs_str _ _ _, ?_⟩ hs ht
  refine P.getItem_str (c := a.getD (a.length - 1) 0) (by decide) ?_ (h _ _)
  have hq : seqIndex? (-1) (S a).length = some (a.length - 1) := by
    rw [S_len, seqIndex_neg (by decide) (by omega)]
    congr 1; first | exact last_tn h1 | omega
  rw [hq]
  have : a.length - 1 < a.length := by omega
  simp [S, this]
end
section
variable {prog : Program} {w : World} {A : Around} {E : Value → Shared → Prop} {s : Shared} {h₀ : Heap} {L D : Addr} {m : Str → Option Value} {news news' : List (Addr × Obj)} {vs : List Value} {n : Nat} {v : Value} {t : Tok} {Q : Unit → Shared → Prop}
theorem setL_ok {l : List Value} {j : Nat} {v : Value} (h : j < l.length) : ki_setL l j v = some (l.set j v) := by
  induction l generalizing j with
  | nil => simp at h
  | cons a r ih =>
    cases j with
    | zero => rfl
    | succ j =>
      have := ih (j := j) (by simpa using h)
      simp [ki_setL, this]
theorem set_last (F : Fr h₀ L s.heap m) (N : News h₀ L s.heap news) (U : Upd D (listOf vs.toArray n) (listOf (vs.set (vs.length - 1) v).toArray n) news news') (h1 : 1 ≤ vs.length)
    (h : ∀ h', Fr h₀ L h' m → News h₀ L h' news' → Q () { s with heap := h' }) : wpAny (model prog w) A (setItem (.ref D) (.int (-1) t) v) Q E s := by
  refine ki_setNeg F N (by decide) (by decide) (j := vs.length - 1) ?_ (setL_ok (by simp; omega)) U h
  rw [PySem.seqIndex_neg (by decide) (by simp; omega)]
  congr 1; simp; first | exact last_tn h1 | omega
theorem set_nat {k : Int} (F : Fr h₀ L s.heap m) (N : News h₀ L s.heap news) (U : Upd D (listOf vs.toArray n) (listOf (vs.set k.toNat v).toArray n) news news') (h0 : 0 ≤ k) (h1 : k < (vs.length : Int)) (hz : vs.length ≤ 100000)
    (h : ∀ h', Fr h₀ L h' m → News h₀ L h' news' → Q () { s with heap := h' }) : wpAny (model prog w) A (setItem (.ref D) (.int k t) v) Q E s :=
  ki_set F N h0 (by omega) (setL_ok (by simp; omega)) U h
end
end Mine
end
section
open PySem PySem.W PySem.Calls PyProof.Rows
set_option maxRecDepth 100000
set_option maxHeartbeats 8000000
namespace Mine
/-- a text, cut at its stars -/
noncomputable def stars : List Nat → List (List Nat)
  | [] => [[]]
  | c :: r => if c = 42 then [] :: stars r else match stars r with
    | p :: ps => (c :: p) :: ps
    | [] => [[c]]
theorem stars_pos : ∀ l, 1 ≤ (stars l).length
  | [] => Nat.le_refl _
  | c :: r => by
    have := stars_pos r
    unfold stars
    split
    · simp
    · split
      · simp
      · simp
theorem stars_ex (l : List Nat) : ∃ p ps, stars l = p :: ps := by
  have := stars_pos l
  cases h : stars l with
  | nil => rw [h] at this; simp at this
  | cons p ps => exact ⟨p, ps, rfl⟩
theorem stars_cons {c : Nat} {r : List Nat} (h : c ≠ 42) {p ps} (e : stars r = p :: ps) : stars (c :: r) = (c :: p) :: ps := by
  unfold stars; rw [if_neg h, e]
theorem stars_star (r : List Nat) : stars (42 :: r) = [] :: stars r := by
  rw [stars]; simp
theorem stars_free {a : List Nat} (ha : 42 ∉ a) (r : List Nat) {p ps} (e : stars r = p :: ps) : stars (a ++ r) = (a ++ p) :: ps := by
  induction a with
  | nil => exact e
  | cons c a ih =>
    simp only [List.mem_cons, not_or] at ha
    exact stars_cons (fun h => ha.1 h.symm) (ih ha.2)
/-- the parts, a star between -/
noncomputable def jn : List (List Nat) → List Nat
  | [] => []
  | [a] => a
  | a :: b :: r => a ++ 42 :: jn (b :: r)
theorem stars_jn : ∀ ps : List (List Nat), ps ≠ [] → (∀ p ∈ ps, 42 ∉ p) → stars (jn ps) = ps
  | [], h, _ => absurd rfl h
  | [a], _, h => by
    have := stars_free (h a (.head _)) [] (p := []) (ps := []) rfl
    rw [List.append_nil] at this
    exact this
  | a :: b :: r, _, h => by
    have ih := stars_jn (b :: r) (by simp) fun p hp => h p (.tail _ hp)
    have := stars_free (h a (.head _)) (42 :: jn (b :: r)) (stars_star _)
    rw [List.append_nil, ih] at this
    exact this
noncomputable def splitL (l : List Nat) : List (List Nat) := (Txt.split (S l) (PySem.Str.ofString "*")).map (·.cps.toList)
theorem splitL_S (l : List Nat) : (splitL l).map S = Txt.split (S l) (PySem.Str.ofString "*") := by
  unfold splitL
  rw [List.map_map]
  conv => rhs; rw [← List.map_id (Txt.split _ _)]
  exact List.map_congr_left fun x _ => (S_of x).symm
theorem S_jn : ∀ ps : List (List Nat), PySem.Str.join (S [42]) (ps.map S) = S (jn ps)
  | [] => rfl
  | [a] => by simp [PySem.Str.join, jn]
  | a :: b :: r => by
    show S a ++ S [42] ++ PySem.Str.join (S [42]) ((b :: r).map S) = _
    rw [S_jn (b :: r), S_app, S_app, jn]; simp
theorem splitL_eq (l : List Nat) : splitL l = stars l := by
  have h1 : PySem.Str.join (S [42]) ((splitL l).map S) = S l := by
    rw [splitL_S]; exact StrLaws.join_split _ _
  rw [S_jn] at h1
  have h2 := S_inj.mp h1
  have h3 : splitL l ≠ [] := fun e => by
    have := split_pos (S l) (PySem.Str.ofString "*")
    rw [← splitL_S, e] at this; simp at this
  have h4 : ∀ p ∈ splitL l, 42 ∉ p := fun p hp => by
    unfold splitL at hp
    obtain ⟨x, hx, rfl⟩ := List.mem_map.mp hp
    exact StrLaws.split_free (S l) 42 x hx
  rw [← stars_jn _ h3 h4, h2]
theorem stars_mem : ∀ (l : List Nat), ∀ p ∈ stars l, ∀ c ∈ p, c ∈ l
  | [], p, hp, c, hc => by simp [stars] at hp; subst hp; cases hc
  | d :: r, p, hp, c, hc => by
    unfold stars at hp
    split at hp
    · rcases List.mem_cons.mp hp with rfl | hp
      · cases hc
      · exact .tail _ (stars_mem r p hp c hc)
    · split at hp
      · rename_i q qs e
        rcases List.mem_cons.mp hp with rfl | hp
        · rcases List.mem_cons.mp hc with rfl | hc
          · exact .head _
          · exact .tail _ (stars_mem r q (by rw [e]; exact .head _) c hc)
        · exact .tail _ (stars_mem r p (by rw [e]; exact .tail _ hp) c hc)
      · rw [List.mem_singleton.mp hp] at hc
        rw [List.mem_singleton.mp hc]; exact .head _
theorem stars_len : ∀ l : List Nat, (stars l).length ≤ l.length + 1 ∧ ((stars l).map List.length).sum ≤ l.length
  | [] => by simp [stars]
  | c :: r => by
    have ih := stars_len r
    unfold stars
    split
    · simp only [List.length_cons, List.map_cons, List.sum_cons, List.length_nil]; omega
    · split
      · rename_i q qs e
        rw [e] at ih
        simp only [List.length_cons, List.map_cons, List.sum_cons] at ih ⊢; omega
      · simp
end Mine
end
section
open PySem PySem.W PySem.Calls PyProof.Rows
set_option maxRecDepth 100000
set_option maxHeartbeats 8000000
namespace Mine
open LCg
section
variable {prog : Program} {w : World} {A : Around} {E : Value → Shared → Prop} {s : Shared} {h₀ : Heap} {env : Env}
noncomputable def ForGT (prog : Program) (w : World) (A : Around) (env : Env) (tgt : Expr) (body : List Stmt) (Q : Flow → Shared → Prop) (E : Value → Shared → Prop) (it : Value) (s₂ : Shared) : Prop :=
  codeAny (model prog w) A (.forLoop tgt it body [] env) (fun r s' => match r with | .ok f => Q f s' | .error e => cameBackBy (model prog w) A env E e s') s₂
theorem For_T {tgt : Expr} {pos : Pos} {iter : Expr} {body : List Stmt} {Q : Flow → Shared → Prop} {m : Str → Option Value} (_F : Fr h₀ env.locals s.heap m)
    (h : wpAny (model prog w) A (eval iter env) (fun xv s₁ => wpAny (model prog w) A (pyIter xv) (fun it s₂ => ForGT prog w A env tgt body Q E it s₂) E s₁) E s)
    (hs : ∀ x, foldedSetIterable iter env x = pure x := by intro _; rfl) :
    wpAny (model prog w) A (exec (.For tgt iter body [] pos) env) Q E s :=
  wpAny_For (wpAny_mono h (fun _ _ h₁ => wpAny_mono h₁ (fun _ _ h₂ => h₂) fun _ _ e => e) fun _ _ e => e) hs
/-- the end of a turn, own objects beside -/
noncomputable def ForTurnO {σ : Type} (h₀ : Heap) (L : Addr) (s : Shared) (own : List (Addr × Obj)) (Led : σ → List (Addr × Obj)) (ps : σ → List (Str × Value)) (stored : List Str) (m₀ : Str → Option Value) (Inv : σ → Prop) (Q : Flow → Shared → Prop) (f : Flow) (s₃ : Shared) : Prop :=
  match f with
  | .ret v => Q (.ret v) s₃
  | .brk => Q .next s₃
  | _ => ∃ (c : σ) (h' : Heap) (tk : Nat) (m' : Str → Option Value) (news' : List (Addr × Obj)), s₃ = { s with heap := h', toks := tk } ∧ Fr h₀ L h' m' ∧ News h₀ L h' news' ∧ (∀ p ∈ own, p ∈ news') ∧ (∀ p ∈ Led c, p ∈ news') ∧ (∀ p ∈ Led c, ∀ q ∈ own, p.1 ≠ q.1) ∧
      (∀ p ∈ ps c, m' p.1 = some p.2) ∧ (∀ z, (∀ p ∈ ps c, z ≠ p.1) → stored.contains z = false → m' z = m₀ z) ∧ Inv c
theorem forO_end {σ : Type} {h₀ : Heap} {L : Addr} {s : Shared} {own : List (Addr × Obj)} {Led : σ → List (Addr × Obj)} {ps : σ → List (Str × Value)} {stored : List Str} {m₀ m' : Str → Option Value} {Inv : σ → Prop} {Q : Flow → Shared → Prop} {h' : Heap} {tk : Nat} {news' : List (Addr × Obj)} (c : σ)
    (F : Fr h₀ L h' m') (N : News h₀ L h' news') (hI : ∀ p ∈ own, p ∈ news') (hn : ∀ p ∈ Led c, p ∈ news') (off : ∀ p ∈ Led c, ∀ q ∈ own, p.1 ≠ q.1) (hk : ∀ p ∈ ps c, m' p.1 = some p.2) (hr : ∀ z, (∀ p ∈ ps c, z ≠ p.1) → stored.contains z = false → m' z = m₀ z) (hi : Inv c) :
    ForTurnO h₀ L s own Led ps stored m₀ Inv Q .next { s with heap := h', toks := tk } := ⟨c, h', tk, m', news', rfl, F, N, hI, hn, off, hk, hr, hi⟩
noncomputable def ZipBody {σ : Type} (prog : Program) (w : World) (A : Around) (h₀ : Heap) (env : Env) (a b : Str) (body : List Stmt) (Q : Flow → Shared → Prop) (xs ys : Array Value) (Led : Nat → σ → List (Addr × Obj)) (ps : Nat → σ → List (Str × Value)) (Inv : Nat → σ → Prop) (stored : List Str) (m₀ : Str → Option Value) (s : Shared) : Prop :=
  ∀ (i : Nat) (c : σ) (u : Str → Option Value) (x y : Value) (Z TI TO I1 I2 : Addr) (o1 o2 o3 o4 o5 : Obj) (h : Heap) (tk : Nat) (E' : Value → Shared → Prop), i < min xs.size ys.size → Inv i c → xs[i]? = some x → ys[i]? = some y →
      Fr h₀ env.locals h (fun z => if z = b then some y else if z = a then some x else kstB (fun z => if stored.contains z then u z else m₀ z) (ps i c) z) →
      News h₀ env.locals h (Led i c ++ [(Z, o1), (TI, o2), (TO, o3), (I1, o4), (I2, o5)]) → (∀ p ∈ Led i c, ∀ q ∈ [(Z, o1), (TI, o2), (TO, o3), (I1, o4), (I2, o5)], p.1 ≠ q.1) →
      wpAny (model prog w) A (execs body env) (ForTurnO h₀ env.locals s [(Z, o1), (TI, o2), (TO, o3), (I1, o4), (I2, o5)] (Led (i + 1)) (ps (i + 1)) stored m₀ (Inv (i + 1)) Q) E' { s with heap := h, toks := tk }
/-- where a for loop over pairs stands ahead of turn i -/
noncomputable def TInv {σ : Type} (h₀ : Heap) (L : Addr) (s : Shared) (wr : List Addr) (St : Nat → Heap → Prop) (Led : Nat → σ → List (Addr × Obj)) (ps : Nat → σ → List (Str × Value)) (Inv : Nat → σ → Prop) (stored : List Str) (m₀ : Str → Option Value) (i : Nat) (s' : Shared) : Prop :=
  ∃ h' tk m' c, s' = { s with heap := h', toks := tk } ∧ St i h' ∧ Fr h₀ L h' m' ∧ News h₀ L h' (Led i c) ∧ (∀ p ∈ Led i c, p.1 ∉ wr) ∧ (∀ p ∈ ps i c, m' p.1 = some p.2) ∧ (∀ z, (∀ p ∈ ps i c, z ≠ p.1) → stored.contains z = false → m' z = m₀ z) ∧ Inv i c
noncomputable def TEnd (P : Shared → Prop) (Q : Flow → Shared → Prop) (f : Flow) (s₃ : Shared) : Prop := match f with
  | .ret v => Q (.ret v) s₃
  | .brk => Q .next s₃
  | _ => P s₃
/-- a frame that is kept off the addresses that the walk writes -/
theorem off_fr {L : Addr} {wr : List Addr} {h h' : Heap} {m : Str → Option Value} (hw : ∀ b ∈ wr, h₀.get? b = none ∧ b ≠ L) (F : Fr h₀ L h m) (k : ∀ b o, b ∉ wr → h.get? b = some o → h'.get? b = some o) : Fr h₀ L h' m :=
  ⟨F.ns.at' fun o e => k _ o (fun hb => (hw _ hb).2 rfl) e, fun b o e => k b o (fun hb => by rw [(hw _ hb).1] at e; cases e) (F.keep b o e), F.above⟩
theorem off_news {L : Addr} {wr : List Addr} {h h' : Heap} {l : List (Addr × Obj)} (N : News h₀ L h l) (off : ∀ p ∈ l, p.1 ∉ wr) (k : ∀ b o, b ∉ wr → h.get? b = some o → h'.get? b = some o) : News h₀ L h' l := fun p hp => ⟨k _ _ (off p hp) (N p hp).1, (N p hp).2⟩
theorem kst_back {ps : List (Str × Value)} {stored : List Str} {m' m₀ : Str → Option Value} (hk : ∀ p ∈ ps, m' p.1 = some p.2) (hr : ∀ z, (∀ p ∈ ps, z ≠ p.1) → stored.contains z = false → m' z = m₀ z) : kstB (fun z => if stored.contains z then m' z else m₀ z) ps = m' := by
  funext y
  refine kstB_eq hk fun hn => ?_
  show (if stored.contains y = true then m' y else m₀ y) = m' y
  cases h3 : stored.contains y with
  | true => simp
  | false => simp only [Bool.false_eq_true, if_false]; exact (hr y hn h3).symm
noncomputable def TTurn {σ : Type} (prog : Program) (w : World) (A : Around) (h₀ : Heap) (env : Env) (a b : Str) (body : List Stmt) (Q : Flow → Shared → Prop) (n : Nat) (Pt : Nat → Array Value → Prop) (wr : List Addr) (St : Nat → Heap → Prop) (Led : Nat → σ → List (Addr × Obj)) (ps : Nat → σ → List (Str × Value)) (Inv : Nat → σ → Prop) (stored : List Str) (m₀ : Str → Option Value) (s : Shared) : Prop :=
  ∀ (i : Nat) (c : σ) (u : Str → Option Value) (x y : Value) (_g h : Heap) (tk : Nat) (E' : Value → Shared → Prop), i < n → Inv i c → Pt i #[x, y] → St (i + 1) h →
    Fr h₀ env.locals h (fun z => if z = b then some y else if z = a then some x else kstB (fun z => if stored.contains z then u z else m₀ z) (ps i c) z) → News h₀ env.locals h (Led i c) → (∀ p ∈ Led i c, p.1 ∉ wr) →
    wpAny (model prog w) A (execs body env) (TEnd (TInv h₀ env.locals s wr St Led ps Inv stored m₀ (i + 1)) Q) E' { s with heap := h, toks := tk }
/-- a for loop over pairs, by invariants -/
theorem forT {σ : Type} {a b : Str} {pa pb tp : Pos} {kk : Nat} {body : List Stmt} {Q : Flow → Shared → Prop} {m₀ : Str → Option Value} {I : Addr} {fp wr ow : List Addr} {n : Nat} {Pt : Nat → Array Value → Prop} {St : Nat → Heap → Prop} {Mid : Nat → Addr → Heap → Prop}
    (W : WalksT prog w A I fp wr n Pt St Mid) (hf : env.locals ∉ fp) (hsub : ∀ b ∈ wr, b ∈ ow) (hw : ∀ b ∈ ow, h₀.get? b = none ∧ b ≠ env.locals) (hP : ∀ i vals, Pt i vals → ∃ x y, vals = #[x, y])
    {Led : Nat → σ → List (Addr × Obj)} {ps : Nat → σ → List (Str × Value)} {Inv : Nat → σ → Prop} {stored : List Str}
    (hh : A.handled = none) (ha : env.kindOf a = some .local) (hb : env.kindOf b = some .local) (hp : (env.scope.kind == .class || (env.scope.kind == .module && env.locals != env.globals)) = false)
    (turn : TTurn prog w A h₀ env a b body Q n Pt ow St Led ps Inv stored m₀ s)
    (done : ∀ g, ForDone h₀ env.locals Q n Led ps Inv stored m₀ { s with heap := g })
    {s₁ : Shared} (h : TInv h₀ env.locals s ow St Led ps Inv stored m₀ 0 s₁) :
    ForGT prog w A env (.Tuple [.Name a pa, .Name b pb] kk tp) body Q E (.ref I) s₁ := by
  refine codeAny_forLoop_any (fun k s' => ∃ i, i ≤ n ∧ k = n + 1 - i ∧ TInv h₀ env.locals s ow St Led ps Inv stored m₀ i s') ?_ (n + 1) ⟨0, Nat.zero_le _, rfl, h⟩
  rintro k s' ⟨i, hin, rfl, h', tk, m', c, rfl, hst, F, N, off, hk, hr, hi⟩
  by_cases hlt : i < n
  · refine W.item i _ _ _ hlt hst fun T vals h₁ tk₁ hPi _ hT hMd hk₁ => ?_
    refine W.go _ _ _ i T _ _ _ hMd fun h₂ hst₂ hk₂ => ?_
    have hk₂' : ∀ b o, b ∉ wr → h'.get? b = some o → h₂.get? b = some o := fun b o hb x => hk₂ b o hb (hk₁ b o hb x)
    obtain ⟨x, y, rfl⟩ := hP _ _ hPi
    have F₂ := off_fr (fun b hb => hw b (hsub b hb)) F hk₂'
    have N₂ := off_news N (fun p hp hb => off p hp (hsub _ hb)) hk₂'
    have hT₂ : h₂.IsTuple T #[x, y] := hT.at fun o e => hk₂ T o (W.apart i T _ hMd) e
    clear hk₂' hk₂ hk₁ hT hMd hst
    refine kcp_assign hh hT₂ ha hb hp F₂.ns fun h₃ tk₃ hn₃ hs₃ => ?_
    have hst₃ := W.frame _ _ _ hst₂ fun b hb o e => hs₃ b o (fun q => hf (q ▸ hb)) e
    have F₃ : Fr h₀ env.locals h₃ (fun z => if z = b then some y else if z = a then some x else m' z) := ⟨hn₃, fun b o e => hs₃ b o (fun q => by rw [q] at e; exact absurd (Heap.lt_size e) (Nat.not_lt.mpr F.above)) (F₂.keep b o e), F.above⟩
    have N₃ : News h₀ env.locals h₃ (Led i c) := fun p hp => ⟨hs₃ _ _ (N₂ p hp).2.1 (N₂ p hp).1, (N₂ p hp).2⟩
    rw [← kst_back hk hr] at F₃
    refine wpAny_mono (turn i c m' x y h' h₃ tk₃ _ hlt hi hPi hst₃ F₃ N₃ off) (fun f s₃ h₅ => ?_) fun _ _ e => e
    cases f with
    | ret v => exact h₅
    | brk => exact h₅
    | cont => exact ⟨n + 1 - (i + 1), by omega, i + 1, hlt, rfl, h₅⟩
    | next => exact ⟨n + 1 - (i + 1), by omega, i + 1, hlt, rfl, h₅⟩
  · obtain rfl : i = n := Nat.le_antisymm hin (Nat.not_lt.mp hlt)
    refine W.done _ _ _ hst fun h₂ tk₂ hk₂ => wpAny_execs_nil ?_
    exact done h' c m' h₂ tk₂ hi (ksw_fr hk hr (off_fr (fun b hb => hw b (hsub b hb)) F hk₂)) (off_news N (fun p hp hb => off p hp (hsub _ hb)) hk₂)
/-- what zip walks by -/
noncomputable def ZSt (Z TI TO I1 I2 l1 l2 : Addr) (xs ys : Array Value) (i : Nat) (h : Heap) : Prop :=
  IsZip h Z TI TO .none ∧ IsPair h TI (.ref I1) (.ref I2) ∧ (∃ a b, IsPair h TO a b) ∧ h.IsListIter I1 l1 i ∧ h.IsListIter I2 l2 i ∧ h.IsList l1 xs ∧ h.IsList l2 ys
theorem z_own {h : Heap} {Z TI TO I1 I2 l1 l2 : Addr} {xs ys : Array Value} {i : Nat} (x : ZSt Z TI TO I1 I2 l1 l2 xs ys i h) :
    ∃ o1 o2 o3 o4 o5, (h.get? Z = some o1 ∧ h.get? TI = some o2 ∧ h.get? TO = some o3 ∧ h.get? I1 = some o4 ∧ h.get? I2 = some o5) ∧
      ∀ h' : Heap, h'.get? Z = some o1 → h'.get? TI = some o2 → h'.get? TO = some o3 → h'.get? I1 = some o4 → h'.get? I2 = some o5 → h'.IsList l1 xs → h'.IsList l2 ys → ZSt Z TI TO I1 I2 l1 l2 xs ys i h' := by
  obtain ⟨z1, z2, ⟨ta, tb, z3⟩, ⟨o4, z4, r4⟩, ⟨o5, z5, r5⟩, _, _⟩ := x
  exact ⟨_, _, _, o4, o5, ⟨z1, z2, z3, z4, z5⟩, fun h' e1 e2 e3 e4 e5 e6 e7 => ⟨e1, e2, ⟨ta, tb, e3⟩, ⟨o4, e4, r4⟩, ⟨o5, e5, r5⟩, e6, e7⟩⟩
theorem all5 {α : Type} {P : α → Prop} {a b c d e : α} (h1 : P a) (h2 : P b) (h3 : P c) (h4 : P d) (h5 : P e) : ∀ x ∈ [a, b, c, d, e], P x :=
  List.forall_mem_cons.mpr ⟨h1, List.forall_mem_cons.mpr ⟨h2, List.forall_mem_cons.mpr ⟨h3, List.forall_mem_cons.mpr ⟨h4, List.forall_mem_cons.mpr ⟨h5, List.forall_mem_nil _⟩⟩⟩⟩⟩
/-- the addresses of zip's five objects stand apart from what stood -/
structure ZNew (h₀ : Heap) (L Z TI TO I1 I2 : Addr) : Prop where
  new : ∀ b ∈ [Z, TI, TO, I1, I2], h₀.get? b = none
  loc : ∀ b ∈ [Z, TI, TO, I1, I2], b ≠ L
theorem zip_turn {σ : Type} {a b : Str} {body : List Stmt} {Q : Flow → Shared → Prop} {m₀ : Str → Option Value} {Z TI TO I1 I2 l1 l2 : Addr} {xs ys : Array Value}
    {Led : Nat → σ → List (Addr × Obj)} {ps : Nat → σ → List (Str × Value)} {Inv : Nat → σ → Prop} {stored : List Str} (z : ZNew h₀ env.locals Z TI TO I1 I2)
    (hS : ∀ i c, Inv i c → SrcAt h₀ l1 xs (Led i c) ∧ SrcAt h₀ l2 ys (Led i c)) (turn : ∀ g, ZipBody prog w A h₀ env a b body Q xs ys Led ps Inv stored m₀ { s with heap := g }) :
    TTurn prog w A h₀ env a b body Q (min xs.size ys.size) (fun i vals => ∃ x y, xs[i]? = some x ∧ ys[i]? = some y ∧ vals = #[x, y]) [Z, TI, TO, I1, I2] (ZSt Z TI TO I1 I2 l1 l2 xs ys) Led ps Inv stored m₀ s := by
  rintro i c u x y g h tk E' hlt hi ⟨x', y', hx, hy, e⟩ hst F N off
  obtain ⟨rfl, rfl⟩ : x = x' ∧ y = y' := by simpa using e
  obtain ⟨o1, o2, o3, o4, o5, ⟨z1, z2, z3, z4, z5⟩, back⟩ := z_own hst
  have N₄ : News h₀ env.locals h (Led i c ++ [(Z, o1), (TI, o2), (TO, o3), (I1, o4), (I2, o5)]) := by
    have nz : News h₀ env.locals h [(Z, o1), (TI, o2), (TO, o3), (I1, o4), (I2, o5)] :=
      all5 ⟨z1, z.loc _ (.head _), z.new _ (.head _)⟩ ⟨z2, z.loc _ (.tail _ (.head _)), z.new _ (.tail _ (.head _))⟩ ⟨z3, z.loc _ (.tail _ (.tail _ (.head _))), z.new _ (.tail _ (.tail _ (.head _)))⟩ ⟨z4, z.loc _ (.tail _ (.tail _ (.tail _ (.head _)))), z.new _ (.tail _ (.tail _ (.tail _ (.head _))))⟩ ⟨z5, z.loc _ (.tail _ (.tail _ (.tail _ (.tail _ (.head _))))), z.new _ (.tail _ (.tail _ (.tail _ (.tail _ (.head _)))))⟩
    exact fun p hp => (List.mem_append.mp hp).elim (N p) (nz p)
  have offO : ∀ p ∈ Led i c, ∀ q ∈ [(Z, o1), (TI, o2), (TO, o3), (I1, o4), (I2, o5)], p.1 ≠ q.1 := fun p hp q hq e => off p hp (by
    have hm := List.mem_map_of_mem (f := Prod.fst) hq
    rw [← e] at hm; exact hm)
  refine wpAny_mono (turn g i c u x y Z TI TO I1 I2 o1 o2 o3 o4 o5 h tk _ hlt hi hx hy F N₄ offO) (fun f s₃ h₅ => ?_) fun _ _ e => e
  have again : ForTurnO h₀ env.locals { s with heap := g } [(Z, o1), (TI, o2), (TO, o3), (I1, o4), (I2, o5)] (Led (i + 1)) (ps (i + 1)) stored m₀ (Inv (i + 1)) Q .next s₃ → TInv h₀ env.locals s [Z, TI, TO, I1, I2] (ZSt Z TI TO I1 I2 l1 l2 xs ys) Led ps Inv stored m₀ (i + 1) s₃ := by
    rintro ⟨c', h₆, tk₆, m₆, news₆, rfl, F₆, N₆, own₆, sub₆, off₆, hk₆, hr₆, hi₆⟩
    have NL : News h₀ env.locals h₆ (Led (i + 1) c') := fun p hp => N₆ p (sub₆ p hp)
    obtain ⟨S1, S2⟩ := hS _ _ hi₆
    refine ⟨h₆, tk₆, m₆, c', rfl, back _ (N₆ _ (own₆ _ (.head _))).1 (N₆ _ (own₆ _ (.tail _ (.head _)))).1 (N₆ _ (own₆ _ (.tail _ (.tail _ (.head _))))).1 (N₆ _ (own₆ _ (.tail _ (.tail _ (.tail _ (.head _)))))).1 (N₆ _ (own₆ _ (.tail _ (.tail _ (.tail _ (.tail _ (.head _))))))).1 (S1.list F₆.keep NL) (S2.list F₆.keep NL), F₆, NL, fun p hp hb => ?_, hk₆, hr₆, hi₆⟩
    obtain ⟨q, hq, e⟩ : ∃ q ∈ [(Z, o1), (TI, o2), (TO, o3), (I1, o4), (I2, o5)], q.1 = p.1 := List.mem_map.mp (by exact hb)
    exact off₆ p hp q hq e.symm
  cases f with
  | ret v => exact h₅
  | brk => exact h₅
  | cont => exact again h₅
  | next => exact again h₅
theorem for_zip {σ : Type} {a b : Str} {pa pb tp : Pos} {kk : Nat} {body : List Stmt} {Q : Flow → Shared → Prop} {m₀ : Str → Option Value} {l1 l2 : Addr} {xs ys : Array Value}
    (Led : Nat → σ → List (Addr × Obj)) (ps : Nat → σ → List (Str × Value)) (Inv : Nat → σ → Prop) (stored : List Str) (c₀ : σ)
    (hh : A.handled = none) (ha : env.kindOf a = some .local) (hb : env.kindOf b = some .local) (hp : (env.scope.kind == .class || (env.scope.kind == .module && env.locals != env.globals)) = false)
    (F : Fr h₀ env.locals s.heap m₀) (N : News h₀ env.locals s.heap (Led 0 c₀)) (hS : ∀ i c, Inv i c → SrcAt h₀ l1 xs (Led i c) ∧ SrcAt h₀ l2 ys (Led i c)) (hk : ∀ p ∈ ps 0 c₀, m₀ p.1 = some p.2) (hi : Inv 0 c₀) (hL1 : l1 ≠ env.locals) (hL2 : l2 ≠ env.locals)
    (turn : ∀ g, ZipBody prog w A h₀ env a b body Q xs ys Led ps Inv stored m₀ { s with heap := g })
    (done : ∀ g, ForDone h₀ env.locals Q (min xs.size ys.size) Led ps Inv stored m₀ { s with heap := g }) :
    wpAny (model prog w) A (call (.type "zip") [.ref l1, .ref l2]) (fun xv s₁ => wpAny (model prog w) A (pyIter xv) (fun it s₂ => ForGT prog w A env (.Tuple [.Name a pa, .Name b pb] kk tp) body Q E it s₂) E s₁) E s := by
  have hl1 : s.heap.IsList l1 xs := (hS 0 c₀ hi).1.list F.keep N
  have hl2 : s.heap.IsList l2 ys := (hS 0 c₀ hi).2.list F.keep N
  have hlt1 : l1 < s.heap.objs.size := by obtain ⟨_, e, _⟩ := hl1; exact Heap.lt_size e
  have hlt2 : l2 < s.heap.objs.size := by obtain ⟨_, e, _⟩ := hl2; exact Heap.lt_size e
  refine call_zip_2 hl1 hl2 fun h' hz hTI hTO hi1 hi2 hsz hkk => ?_
  refine wpAny_pyIter_zip hz ?_
  have W := WalksT.zip2 (prog := prog) (w := w) (A := A) hh _ _ _ _ _ _ _ (ktu_apart s.heap.objs.size l1 l2 hlt1 hlt2) xs ys
  have hLs : env.locals < s.heap.objs.size := F.ns.lt
  have nN : ∀ p ∈ Led 0 c₀, ∀ k : Nat, p.1 ≠ s.heap.objs.size + k := fun p hp k => ktu_ne k (Heap.lt_size (N p hp).1)
  have ZN : ZNew h₀ env.locals (s.heap.objs.size + 4) (s.heap.objs.size + 2) (s.heap.objs.size + 3) s.heap.objs.size (s.heap.objs.size + 1) :=
    ⟨all5 (ktu_new F (Nat.le_add_right _ 4)) (ktu_new F (Nat.le_add_right _ 2)) (ktu_new F (Nat.le_add_right _ 3)) (ktu_new F (Nat.le_refl _)) (ktu_new F (Nat.le_add_right _ 1)),
     all5 (Ne.symm (ktu_ne 4 hLs)) (Ne.symm (ktu_ne 2 hLs)) (Ne.symm (ktu_ne 3 hLs)) (Ne.symm (ktu_ne 0 hLs)) (Ne.symm (ktu_ne 1 hLs))⟩
  have sub : ∀ b ∈ [s.heap.objs.size + 4, s.heap.objs.size + 3, s.heap.objs.size, s.heap.objs.size + 1], b ∈ [s.heap.objs.size + 4, s.heap.objs.size + 2, s.heap.objs.size + 3, s.heap.objs.size, s.heap.objs.size + 1] := fun b hb => by
    rcases List.mem_cons.mp hb with e | hb
    · exact e ▸ .head _
    · exact .tail _ (.tail _ hb)
  have fpL : env.locals ∉ [s.heap.objs.size + 4, s.heap.objs.size + 2, s.heap.objs.size + 3, s.heap.objs.size, s.heap.objs.size + 1, l1, l2] := fun hb => by
    rcases List.mem_append.mp (by exact hb : env.locals ∈ [s.heap.objs.size + 4, s.heap.objs.size + 2, s.heap.objs.size + 3, s.heap.objs.size, s.heap.objs.size + 1] ++ [l1, l2]) with hb | hb
    · exact ZN.loc _ hb rfl
    · rcases List.mem_cons.mp hb with e | hb
      · exact hL1 e.symm
      · exact hL2 (List.mem_singleton.mp hb).symm
  exact forT W fpL sub (fun b hb => ⟨ZN.new b hb, ZN.loc b hb⟩) (fun i vals ⟨x, y, _, _, e⟩ => ⟨x, y, e⟩) hh ha hb hp (zip_turn ZN hS turn) done
    ⟨h', s.toks, m₀, c₀, rfl, ⟨hz, hTI, ⟨_, _, hTO⟩, hi1, hi2, hl1.at fun o e => hkk _ o e, hl2.at fun o e => hkk _ o e⟩, F.keeps hkk, N.grown hkk, fun p hp hb => all5 (P := fun b => p.1 ≠ b) (nN p hp 4) (nN p hp 2) (nN p hp 3) (nN p hp 0) (nN p hp 1) _ hb rfl, hk, fun _ _ _ => rfl, hi⟩
end
end Mine
end
section
open PySem PySem.W PySem.Calls PyProof.Rows
set_option maxRecDepth 100000
set_option maxHeartbeats 8000000
namespace Mine
open LCg
noncomputable def EnEnd (h₀ : Heap) (L : Addr) (m : Str → Option Value) (s₁ : Shared) (e : Addr) (oe : Obj) (j : Addr) (oj : Obj) (C : Addr) (oC : Obj) (D : Addr) (oD : Obj) (news : List (Addr × Obj)) (rest : Value → Prop) (y : Value) (s₂ : Shared) : Prop :=
  ∃ h' tk, s₂ = { s₁ with heap := h', toks := tk } ∧ Fr h₀ L h' m ∧ News h₀ L h' ((e, oe) :: (j, oj) :: (C, oC) :: (D, oD) :: news) ∧ rest y
theorem EnEnd.intro {h₀ : Heap} {L : Addr} {m : Str → Option Value} {s₁ : Shared} {e : Addr} {oe : Obj} {j : Addr} {oj : Obj} {C : Addr} {oC : Obj} {D : Addr} {oD : Obj} {news : List (Addr × Obj)} {rest : Value → Prop} {y : Value} {h' : Heap} {tk : Nat} {all : List (Addr × Obj)}
    (F : Fr h₀ L h' m) (N : News h₀ L h' all) (sub : ∀ p ∈ (e, oe) :: (j, oj) :: (C, oC) :: (D, oD) :: news, p ∈ all) (r : rest y) : EnEnd h₀ L m s₁ e oe j oj C oC D oD news rest y { s₁ with heap := h', toks := tk } :=
  ⟨h', tk, rfl, F, fun p hp => N p (sub p hp), r⟩
section
variable {prog : Program} {w : World} {A : Around} {E : Value → Shared → Prop} {s : Shared} {h₀ : Heap} {L : Addr} {m : Str → Option Value} {env : Env}
noncomputable def SrcE (prog : Program) (w : World) (A : Around) (E : Value → Shared → Prop) (env : Env) (elt iter ct : PySem.Expr) (a b : Str) (pa pb tp : Pos) (kk : Nat) (scope : Scope) (pos : Pos) (cl : List (Str × Addr)) (use : Option (Value → Sem Unit)) (Q : Value → Shared → Prop) (it : Value) (s₂ : Shared) : Prop :=
  wpAny (model prog w) A (newList []) (fun acc s₃ => wpAny (model prog w) A (newFunctionEnv scope env.globals cl [] env.qual none .none (some env)) (fun cenv s₄ =>
      codeAny (model prog w) A (.compStart (.ListComp elt [⟨.Tuple [.Name a pa, .Name b pb] kk tp, iter, [ct], 0⟩] scope pos) 0 it acc { cenv with scope := relabel scope env }) (compPost (model prog w) A E use Q acc cenv.locals) s₄) E s₃) E s₂
theorem Assign_ListComp_E {elt iter ct : PySem.Expr} {a b y : Str} {pa pb tp py : Pos} {kk : Nat} {scope : Scope} {cl : List (Str × Addr)} {pos spos : Pos} {Q : Flow → Shared → Prop} (_F₀ : Fr h₀ L s.heap m)
    (hsw : swapsWith (.ListComp elt [⟨.Tuple [.Name a pa, .Name b pb] kk tp, iter, [ct], 0⟩] scope pos) (some (.Name y py)) spos.line env = pure true)
    (hclos : closureFor scope env = pure cl) (hkind : scope.kind = .function)
    (hnames : ∀ y ∈ scope.names, y.2 = .local → scope.names.lookup y.1 = some .local)
    (h : wpAny (model prog w) A (eval iter env) (fun xv s₁ => wpAny (model prog w) A (pyIter xv) (SrcE prog w A E env elt iter ct a b pa pb tp kk scope pos cl (some (assign (.Name y py) env)) (fun _ s' => Q .next s')) E s₁) E s)
    (hs : ∀ x, foldedSetIterable iter env x = pure x := by intro _; rfl) :
    wpAny (model prog w) A (exec (.Assign [.Name y py] (.ListComp elt [⟨.Tuple [.Name a pa, .Name b pb] kk tp, iter, [ct], 0⟩] scope pos) spos) env) Q E s := by
  rw [exec_Assign_Name_used _ _ _ _ hsw]
  refine wpAny_bind (wpAny_standAt (wpAny_bind ?_))
  show wpAny _ A (do let _ ← comprehension (.ListComp elt [⟨.Tuple [.Name a pa, .Name b pb] kk tp, iter, [ct], 0⟩] scope pos) scope env _ (newList []) false (eval iter env) (some (assign (.Name y py) env))) _ _ s
  exact wpAny_bind (wpAny_mono (wpAny_comprehension_free (use := some (assign (.Name y py) env)) (Q := fun _ s' => Q .next s') rfl hs hclos hkind hnames h) (fun _ s' hq => wpAny_pure (wpAny_pure hq)) fun _ _ e => e)
noncomputable def EnInv (h₀ : Heap) (L : Addr) (m : Str → Option Value) (s : Shared) (e j D0 : Addr) (items : Array Value) (C D : Addr) (V : Nat → List Value → Prop) (news : List (Addr × Obj)) (k : Nat) (s' : Shared) : Prop :=
  ∃ h' tk i ys m', s' = { s with heap := h', toks := tk } ∧ i ≤ items.size ∧ k = items.size + 1 - i ∧ ys.length ≤ i ∧ ((∃ old, IsEnum h' e j i old) ∧ h'.IsListIter j D0 i ∧ h'.IsList D0 items) ∧ Fr h₀ L h' m ∧ h'.Ns C m' ∧ News h₀ L h' ((D, lst ys) :: news) ∧ V i ys
theorem comp_enum {elt iter ct : PySem.Expr} {a b : Str} {pa pb tp : Pos} {kk : Nat} {scope : Scope} {cl : List (Str × Addr)} {pos : Pos} {use : Option (Value → Sem Unit)} {Q : Value → Shared → Prop} {D0 : Addr} {items : Array Value} {news : List (Addr × Obj)} (V : Nat → List Value → Prop)
    (hh : A.handled = none) (hcell : ∀ y ∈ scope.names, y.2 ≠ .cell) (hkind : scope.kind = .function) (hxa : scope.names.lookup a = some .local) (hxb : scope.names.lookup b = some .local) (hab : a ≠ b)
    (F : Fr h₀ L s.heap m) (N : News h₀ L s.heap news) (hS : SrcAt h₀ D0 items news) (hsz : items.size ≤ sizeLine)
    (turn : ∀ g, ∀ (i : Nat) (x : Value) (ys : List Value) (t : Tok) (e : Addr) (oe : Obj) (j : Addr) (oj : Obj) (C : Addr) (oC : Obj) (D : Addr) (m₂ : Str → Option Value) (h : Heap) (tk : Nat) (E' : Value → Shared → Prop), i < items.size → items[i]? = some x → V i ys → NsObj oC m₂ → m₂ a = some (.int (i : Int) t) → m₂ b = some x →
      Fr h₀ L h m → News h₀ L h ((e, oe) :: (j, oj) :: (C, oC) :: (D, lst ys) :: news) →
      wpAny (model prog w) A (isTrue ct (compEnvC scope cl C env) (eval ct (compEnvC scope cl C env))) (fun ok s' => if ok = true then
        wpAny (model prog w) A (eval elt (compEnvC scope cl C env)) (EnEnd h₀ L m { s with heap := g, toks := tk } e oe j oj C oC D (lst ys) news (fun y => V (i + 1) (ys ++ [y]))) E' s'
        else EnEnd h₀ L m { s with heap := g, toks := tk } e oe j oj C oC D (lst ys) news (fun _ => V (i + 1) ys) Value.none s') E' { s with heap := h, toks := tk })
    (h0 : V 0 [])
    (fin : ∀ ys D C h tk m', V items.size ys → Fr h₀ L h m → News h₀ L h ((D, lst ys) :: news) → (∀ p ∈ news, p.1 ≠ D) → h.Ns C m' → h₀.get? C = none → C ≠ L → C ≠ D → (∀ p ∈ news, p.1 ≠ C) → compPost (model prog w) A E use Q (.ref D) C (.ok .next) { s with heap := h, toks := tk }) :
    wpAny (model prog w) A (call (.type "enumerate") [.ref D0]) (fun xv s₁ => wpAny (model prog w) A (pyIter xv) (SrcE prog w A E env elt iter ct a b pa pb tp kk scope pos cl use Q) E s₁) E s := by
  have hl : s.heap.IsList D0 items := hS.list F.keep N
  have hltD : D0 < s.heap.objs.size := by obtain ⟨_, e, _⟩ := hl; exact Heap.lt_size e
  have hLs : L < s.heap.objs.size := F.ns.lt
  refine call_enumerate_list hl fun hp hz hj hpsz hkk => ?_
  refine wpAny_pyIter_enum hz ?_
  have nw : ∀ k : Nat, h₀.get? (s.heap.objs.size + k) = none := fun k => ktu_new F (Nat.le_add_right _ _)
  have nL : ∀ k : Nat, L ≠ s.heap.objs.size + k := fun k => ktu_ne k hLs
  have nN : ∀ p ∈ news, ∀ k : Nat, p.1 ≠ s.heap.objs.size + k := fun p hp k => ktu_ne k (Heap.lt_size (N p hp).1)
  have nE : s.heap.objs.size + 1 ≠ s.heap.objs.size := Nat.succ_ne_self _
  have W := WalksT.enumerate (prog := prog) (w := w) (A := A) hh (s.heap.objs.size + 1) s.heap.objs.size D0 nE (ktu_ne 1 hltD) (Nat.ne_of_lt hltD) items
  have e0 : h₀.get? (s.heap.objs.size + 1) = none := nw 1
  have j0 : h₀.get? s.heap.objs.size = none := nw 0
  have eL : L ≠ s.heap.objs.size + 1 := nL 1
  have jL : L ≠ s.heap.objs.size := nL 0
  have eN : ∀ p ∈ news, p.1 ≠ s.heap.objs.size + 1 ∧ p.1 ≠ s.heap.objs.size := fun p hp => ⟨nN p hp 1, nN p hp 0⟩
  have Fp : Fr h₀ L hp m := F.keeps hkk
  have Np : News h₀ L hp news := N.grown hkk
  have hlp : hp.IsList D0 items := hl.at fun o e => hkk _ o e
  have hDp : D0 < hp.objs.size := Nat.lt_of_lt_of_le hltD (by rw [hpsz]; exact Nat.le_add_right _ _)
  have hep : s.heap.objs.size + 1 < hp.objs.size := by rw [hpsz]; exact Nat.lt_succ_self _
  have hjp : s.heap.objs.size < hp.objs.size := by rw [hpsz]; exact Nat.lt_succ_of_lt (Nat.lt_succ_self _)
  have hLp : L < hp.objs.size := Nat.lt_of_lt_of_le hLs (by rw [hpsz]; exact Nat.le_add_right _ _)
  clear nw nL nN hkk
  revert nE W e0 j0 eL jL eN hz hj hep hjp
  generalize s.heap.objs.size + 1 = e
  generalize s.heap.objs.size = j
  intro hz hj nE W e0 j0 eL jL eN hep hjp
  unfold SrcE
  refine wpAny_newObj_type (wpAny_newFunctionEnv hcell (by intro y hy; simp at hy) (fun h₁ hns₁ hsb₁ => ?_) hkind)
  dsimp only at hns₁ hsb₁ ⊢
  generalize hH2 : hp.push { cls := .type "list", dict := none, data := .seq ([] : List Value).toArray } = H2 at hns₁ hsb₁ ⊢
  have hC : H2.objs.size = hp.objs.size + 1 := by rw [← hH2, Heap.size_push]
  have hDC : hp.objs.size ≠ H2.objs.size := by rw [hC]; exact Nat.ne_of_lt (Nat.lt_succ_self _)
  have below : ∀ b, b < hp.objs.size → b ≠ H2.objs.size ∧ b ≠ hp.objs.size := fun b hb => ⟨by rw [hC]; exact Nat.ne_of_lt (Nat.lt_succ_of_lt hb), Nat.ne_of_lt hb⟩
  have old : ∀ b o, hp.get? b = some o → h₁.get? b = some o := fun b o e => hsb₁.extBut b o (below b (Heap.lt_size e)).1 (Heap.get?_push_of_some _ (hH2 ▸ Heap.get?_push_of_some _ e))
  have hacc : h₁.get? hp.objs.size = some (lst []) := hsb₁.extBut _ _ hDC (Heap.get?_push_of_some _ (hH2 ▸ Heap.get?_push_size _ rfl))
  have hD₀ : h₀.get? hp.objs.size = none := ktu_new Fp (Nat.le_refl _)
  have hC₀ : h₀.get? H2.objs.size = none := ktu_new Fp (by rw [hC]; exact Nat.le_succ _)
  have hDL : hp.objs.size ≠ L := Ne.symm (below L hLp).2
  have hCL : H2.objs.size ≠ L := Ne.symm (below L hLp).1
  have offN : ∀ p ∈ news, p.1 ≠ H2.objs.size ∧ p.1 ≠ hp.objs.size := fun p hp' => below _ (Heap.lt_size (Np p hp').1)
  have D0C := below D0 hDp
  have eC := below e hep
  have jC := below j hjp
  have hst₁ : (∃ old, IsEnum h₁ e j 0 old) ∧ h₁.IsListIter j D0 0 ∧ h₁.IsList D0 items := ⟨⟨_, old _ _ hz⟩, hj.at fun o e => old _ o e, hlp.at fun o e => old _ o e⟩
  have fpC : H2.objs.size ∉ [e, j, D0] := fun hb => by
    have hb' : H2.objs.size = e ∨ H2.objs.size = j ∨ H2.objs.size = D0 := by simpa using hb
    rcases hb' with q | q | q
    · exact eC.1 q.symm
    · exact jC.1 q.symm
    · exact D0C.1 q.symm
  have loop : ∀ s₃ : Shared, s₃ = { s with heap := h₁, toks := s.toks + ([] : List (Str × Value)).length } →
      codeAny (model prog w) A (.compLoop (.ListComp elt [⟨.Tuple [.Name a pa, .Name b pb] kk tp, iter, [ct], 0⟩] scope pos) 0 (.ref e) (.ref hp.objs.size) (compEnvC scope cl H2.objs.size env))
        (compPost (model prog w) A E use Q (.ref hp.objs.size) H2.objs.size) s₃ := by
    rintro s₃ rfl
    refine kct_loop
      (EnInv h₀ L m s e j D0 items H2.objs.size hp.objs.size V news) ?_ (items.size + 1)
      ⟨h₁, _, 0, [], _, rfl, Nat.zero_le _, rfl, Nat.le_refl _, hst₁, Fp.keeps old, hns₁, fun p hp => ?_, h0⟩
    · rintro k s' ⟨h', tk, i, ys, m', rfl, hi, rfl, hyl, hst', F', hn', N', hV⟩
      have wrN : ∀ b, b ∈ [e, j] → h₀.get? b = none ∧ b ≠ L ∧ b ≠ H2.objs.size ∧ b ≠ hp.objs.size ∧ ∀ p ∈ news, p.1 ≠ b := fun b hb => by
        have hb' : b = e ∨ b = j := by simpa using hb
        rcases hb' with rfl | rfl
        · exact ⟨e0, Ne.symm eL, eC.1, eC.2, fun p hp => (eN p hp).1⟩
        · exact ⟨j0, Ne.symm jL, jC.1, jC.2, fun p hp => (eN p hp).2⟩
      have next : ∀ h₂ : Heap, (∀ b o, b ∉ [e, j] → h'.get? b = some o → h₂.get? b = some o) → Fr h₀ L h₂ m ∧ News h₀ L h₂ ((hp.objs.size, lst ys) :: news) ∧ h₂.Ns H2.objs.size m' := fun h₂ hk₂ =>
        ⟨⟨F'.ns.at' fun o x => hk₂ _ o (fun hb => (wrN _ hb).2.1 rfl) x, fun b o x => hk₂ b o (fun hb => by rw [(wrN _ hb).1] at x; cases x) (F'.keep b o x), F'.above⟩,
          fun p hp => ⟨hk₂ _ _ (fun hb => by
            rcases List.mem_cons.mp hp with rfl | hp
            · exact (wrN _ hb).2.2.2.1 rfl
            · exact (wrN _ hb).2.2.2.2 p hp rfl) (N' p hp).1, (N' p hp).2⟩, hn'.at' fun o x => hk₂ _ o (fun hb => (wrN _ hb).2.2.1 rfl) x⟩
      by_cases hlt : i < items.size
      · refine W.item i _ _ _ hlt hst' fun T vals h₂ tk₂ hP _ hT hMd hk₂ => ?_
        refine W.go _ _ _ i T _ _ _ hMd fun h₃ hst₃ hk₃ => ?_
        have hTw := W.apart i T _ hMd
        obtain ⟨F₃, N₃, hn₃⟩ := next h₃ fun b o hb x => hk₃ b o hb (hk₂ b o hb x)
        obtain ⟨t, x, hx, rfl⟩ := hP
        have hT₃ : h₃.IsTuple T #[.int i t, x] := hT.at fun o e => hk₃ T o hTw e
        refine kcp_assign (env := compEnvC scope cl H2.objs.size env) hh hT₃ (lookup_relabel_local hxa) (lookup_relabel_local hxb) (by simp [compEnvC, relabel, hkind]) hn₃ fun h₄ tk₄ hn₄ hs₄ => ?_
        have hst₄ := W.frame _ _ _ hst₃ fun b hb o e => hs₄ b o (fun q => fpC (by have q' : b = H2.objs.size := q; rw [← q']; exact hb)) e
        have F₄ : Fr h₀ L h₄ m := ⟨F₃.ns.at' fun o x => hs₄ _ o (fun q => hCL q.symm) x, fun b o x => hs₄ b o (fun q => by rw [show b = H2.objs.size from q, hC₀] at x; cases x) (F₃.keep b o x), F'.above⟩
        obtain ⟨⟨old', z1⟩, ⟨oj, z2, r2⟩, _⟩ := hst₄
        obtain ⟨oe, z1, r1⟩ : ∃ o, h₄.get? e = some o ∧ ∀ h : Heap, h.get? e = some o → IsEnum h e j ((i + 1 : Nat) : Int) old' := ⟨_, z1, fun _ e => e⟩
        obtain ⟨oC, heC, hoC⟩ := ns_obj hn₄
        have N₄ : News h₀ L h₄ ((e, oe) :: (j, oj) :: (H2.objs.size, oC) :: (hp.objs.size, lst ys) :: news) := fun p hp => by
          rcases List.mem_cons.mp hp with rfl | hp
          · exact ⟨z1, Ne.symm eL, e0⟩
          rcases List.mem_cons.mp hp with rfl | hp
          · exact ⟨z2, Ne.symm jL, j0⟩
          rcases List.mem_cons.mp hp with rfl | hp
          · exact ⟨heC, hCL, hC₀⟩
          · refine ⟨hs₄ _ _ (fun q => ?_) (N₃ p hp).1, (N₃ p hp).2⟩
            rcases List.mem_cons.mp hp with rfl | hp
            · exact hDC q
            · exact (offN p hp).1 q
        have fin' : ∀ (ys' : List Value) (h₅ : Heap) (tk₅ : Nat), ys'.length ≤ i + 1 → Fr h₀ L h₅ m → News h₀ L h₅ ((e, oe) :: (j, oj) :: (H2.objs.size, oC) :: (hp.objs.size, lst ys') :: news) → V (i + 1) ys' →
            ∃ q', q' < items.size + 1 - i ∧ EnInv h₀ L m s e j D0 items H2.objs.size hp.objs.size V news q' { s with heap := h₅, toks := tk₅ } := by
          intro ys' h₅ tk₅ hl' F₅ N₅ V₅
          have g1 := (N₅ (e, oe) (by simp)).1
          have g2 := (N₅ (j, oj) (by simp)).1
          have g3 := (N₅ (H2.objs.size, oC) (by simp)).1
          have N₆ : News h₀ L h₅ ((hp.objs.size, lst ys') :: news) := fun q hq => N₅ q (List.mem_cons_of_mem _ (List.mem_cons_of_mem _ (List.mem_cons_of_mem _ hq)))
          exact ⟨items.size + 1 - (i + 1), by omega, h₅, tk₅, i + 1, ys', _, rfl, hlt, rfl, hl', ⟨⟨_, r1 _ g1⟩, ⟨_, g2, r2⟩, hS.list F₅.keep fun q hq => N₆ q (List.mem_cons_of_mem _ hq)⟩, F₅, hoC.ns g3, N₆, V₅⟩
        refine wpAny_mono (turn h' i x ys t e oe j oj H2.objs.size oC hp.objs.size _ h₄ _ _ hlt hx hV hoC (by simp [hab]) (by simp) F₄ N₄) (fun ok s₅ h₅ => ?_) fun _ _ e => e
        cases ok with
        | false =>
          simp only [Bool.false_eq_true, if_false] at h₅ ⊢
          obtain ⟨h₅, tk₅, rfl, F₅, N₅, V₅⟩ := h₅
          exact fin' ys h₅ tk₅ (Nat.le_succ_of_le hyl) F₅ N₅ V₅
        | true =>
          simp only [if_true] at h₅ ⊢
          refine wpAny_mono h₅ (fun y s₆ h₆ => ?_) fun _ _ e => e
          obtain ⟨h₅, tk₅, rfl, F₅, N₅, V₅⟩ := h₆
          have g1 := (N₅ (e, oe) (by simp)).1
          have g2 := (N₅ (j, oj) (by simp)).1
          have g3 := (N₅ (H2.objs.size, oC) (by simp)).1
          have g4 := (N₅ (hp.objs.size, lst ys) (by simp)).1
          refine append_at (hsz := by show ys.toArray.size ≤ sizeLine; rw [List.size_toArray]; exact Nat.le_trans hyl (Nat.le_trans hi hsz)) g4 fun h₆ hs₆ hD₆ => ?_
          refine fin' (ys ++ [y]) h₆ _ (by rw [List.length_append, List.length_singleton]; exact Nat.succ_le_succ hyl) (F₅.change hs₆ hDL hD₀) (fun q hq => ?_) V₅
          rcases List.mem_cons.mp hq with rfl | hq
          · exact ⟨hs₆.extBut _ _ eC.2 g1, Ne.symm eL, e0⟩
          rcases List.mem_cons.mp hq with rfl | hq
          · exact ⟨hs₆.extBut _ _ jC.2 g2, Ne.symm jL, j0⟩
          rcases List.mem_cons.mp hq with rfl | hq
          · exact ⟨hs₆.extBut _ _ (Ne.symm hDC) g3, hCL, hC₀⟩
          rcases List.mem_cons.mp hq with rfl | hq
          · exact ⟨hD₆.trans (congrArg some (lst_snoc ys y)), hDL, hD₀⟩
          · have z := N₅ q (List.mem_cons_of_mem _ (List.mem_cons_of_mem _ (List.mem_cons_of_mem _ (List.mem_cons_of_mem _ hq))))
            exact ⟨hs₆.extBut _ _ (offN q hq).2 z.1, z.2⟩
      · obtain rfl : i = items.size := Nat.le_antisymm hi (Nat.not_lt.mp hlt)
        refine W.done _ _ _ hst' fun h₂ tk₂ hk₂ => ?_
        obtain ⟨F₂, N₂, hn₂⟩ := next h₂ hk₂
        exact fin ys hp.objs.size H2.objs.size h₂ tk₂ m' hV F₂ N₂ (fun p hp => (offN p hp).2) hn₂ hC₀ hCL (Ne.symm hDC) fun p hp => (offN p hp).1
    · rcases List.mem_cons.mp hp with rfl | hp
      · exact ⟨hacc, hDL, hD₀⟩
      · exact ⟨old _ _ (Np p hp).1, (Np p hp).2⟩
  exact codeAny_compStart_list (loop _ rfl) (W.self 0 _ _ _ hst₁ (loop _ rfl))
theorem assign_fin {y : Str} {py : Pos} {Q : Value → Shared → Prop} {news : List (Addr × Obj)} {ys : List Value} {D C : Addr} {h : Heap} {tk : Nat} {m' : Str → Option Value} (hLe : env.locals = L)
    (hy : env.kindOf y = some .local) (hp : (env.scope.kind == .class || (env.scope.kind == .module && env.locals != env.globals)) = false)
    (F' : Fr h₀ L h m) (N' : News h₀ L h ((D, lst ys) :: news)) (hn : h.Ns C m') (hC₀ : h₀.get? C = none) (hCL : C ≠ L) (hCD : C ≠ D) (offC : ∀ p ∈ news, p.1 ≠ C)
    (fin : ∀ v h tk, Fr h₀ L h (fun z => if z = y then some (.ref D) else m z) → News h₀ L h ((D, lst ys) :: news) → Q v { s with heap := h, toks := tk }) :
    compPost (model prog w) A E (some (assign (.Name y py) env)) Q (.ref D) C (.ok .next) { s with heap := h, toks := tk } := by
  subst hLe
  show wpAny _ A (assign (.Name y py) env (.ref D)) _ _ _
  refine wpAny_assign_Name (wpAny_storeName_local hy F'.ns (fun h₂ hn₂ hs₂ => ?_) hp)
  have hL₀ : h₀.get? env.locals = none := Heap.get?_none_of_le F'.above
  have F₂ : Fr h₀ env.locals h₂ (fun z => if z = y then some (.ref D) else m z) := ⟨hn₂, fun b o e => hs₂.extBut b o (fun q => by rw [q, hL₀] at e; cases e) (F'.keep b o e), F'.above⟩
  refine ⟨m', hn.sameBut hs₂ hCL, fun h'' hs'' => fin _ h'' _ (F₂.change hs'' hCL hC₀) (fun p hp => ?_)⟩
  have z : h₂.get? p.1 = some p.2 := hs₂.extBut _ _ (N' p hp).2.1 (N' p hp).1
  refine ⟨hs''.extBut _ _ ?_ z, (N' p hp).2⟩
  rcases List.mem_cons.mp hp with rfl | hp
  · exact Ne.symm hCD
  · exact offC p hp
theorem Assign_ListComp_G {elt iter : PySem.Expr} {x y : Str} {px py : Pos} {scope : Scope} {cl : List (Str × Addr)} {pos spos : Pos} {Q : Flow → Shared → Prop} (_F₀ : Fr h₀ L s.heap m) (hLe : env.locals = L)
    (hsw : swapsWith (.ListComp elt [⟨.Name x px, iter, [], 0⟩] scope pos) (some (.Name y py)) spos.line env = pure true)
    (hclos : closureFor scope env = pure cl) (hcell : ∀ y ∈ scope.names, y.2 ≠ .cell) (hkind : scope.kind = .function)
    (hnames : ∀ y ∈ scope.names, y.2 = .local → scope.names.lookup y.1 = some .local) (hx : scope.names.lookup x = some .local)
    (hy : env.kindOf y = some .local) (hp : (env.scope.kind == .class || (env.scope.kind == .module && env.locals != env.globals)) = false)
    (h : wpAny (model prog w) A (eval iter env) (fun xv s₁ => wpAny (model prog w) A (pyIter xv) (SrcG prog w A h₀ L m env elt x scope cl (fun s₂ => FinA h₀ L m s₂ y Q)) E s₁) E s)
    (hs : ∀ x, foldedSetIterable iter env x = pure x := by intro _; rfl) :
    wpAny (model prog w) A (exec (.Assign [.Name y py] (.ListComp elt [⟨.Name x px, iter, [], 0⟩] scope pos) spos) env) Q E s := by
  rw [exec_Assign_Name_used _ _ _ _ hsw]
  refine wpAny_bind (wpAny_standAt (wpAny_bind ?_))
  show wpAny _ A (do let _ ← comprehension (.ListComp elt [⟨.Name x px, iter, [], 0⟩] scope pos) scope env _ (newList []) false (eval iter env) (some (assign (.Name y py) env))) _ _ s
  refine wpAny_bind (wpAny_mono (wpAny_comprehension_free (use := some (assign (.Name y py) env)) (Q := fun _ s' => Q .next s') rfl hs hclos hkind hnames
    (wpAny_mono h (fun xv s₁ h₁ => ?_) fun _ _ e => e)) (fun _ s' hq => wpAny_pure (wpAny_pure hq)) fun _ _ e => e)
  refine wpAny_mono h₁ (fun it s₂ h₂ => ?_) fun _ _ e => e
  obtain ⟨I, fp, n, P, St, S, news, rfl, W, hsz, hIo, hSt, hst, hfp, F, N, hIL, hI₀, off, hS, R⟩ := h₂
  refine block_U W hsz hIo hSt hcell hkind hx hst hfp F N hIL hI₀ off hS R ?_
  intro D C h tk m' ys news' F' N' o1 hn hC₀ hD₀ hCL hDL hCD offC fin
  exact assign_fin hLe hy hp F' N' hn hC₀ hCL hCD offC fun _ h' tk' F₂ N₂ => fin D h' tk' F₂ N₂ o1
end
end Mine
end
section
open PySem PySem.W PySem.Calls PyProof.Rows
set_option maxRecDepth 100000
set_option maxHeartbeats 8000000
namespace Mine
open Builtin
theorem o_slot_init : Slot "object" "__init__" "object.__init__" :=
  .of (owner := "object") (n := "__init__") (by rw [typeLookup_type, builtinLookup_eq_fast]; kernel_rfl) (by decide +kernel) (by decide +kernel) (by decide +kernel)
    (by first | exact .inl (by decide +kernel) | exact .inr (by decide +kernel)) (by rw [isSubtype_type]; kernel_rfl)
theorem o_mro : mroOf (.type "object") = pure [.type "object"] := by rw [mroOf_type]; kernel_rfl
theorem o_lookup_new : typeLookup (.type "object") "__new__" = pure (some (.builtin "object.__new__")) := by rw [typeLookup_type, builtinLookup_eq_fast]; kernel_rfl
theorem o_made : Bind.madeBy (.type "object") = pure (some "object.__new__") := madeBy_type o_mro o_lookup_new (by decide +kernel)
theorem o_called : TypeCalled "object" "object.__new__" "object.__init__" :=
  ⟨by decide +kernel, by decide +kernel, ⟨_, _, o_mro⟩, o_made, by decide +kernel, by rw [isSubtype_type]; kernel_rfl, o_slot_init⟩
theorem o_typeCall : checkTypeCall "object" ⟨[], []⟩ = pure () := by kernel_rfl
theorem o_newCall : checkBuiltinCall "object.__new__" ⟨[.type "object"], []⟩ = pure () := by kernel_rfl
theorem o_entry_new : entryFor table "object.__new__" = some Builtin.«object.__new__» := entryFor_of_tree (by kernel_rfl)
theorem o_args_init (a : Value) : argsOk "object.__init__" ⟨[a], []⟩ := by unfold argsOk; kernel_rfl
theorem o_here : Bind.madeHere "object.__new__" (.type "object") = pure () := by
  unfold Bind.madeHere
  rw [show Bind.staticBase (.type "object") = pure (.type "object") by kernel_rfl]
  show (Bind.madeBy (.type "object") >>= _) = _
  rw [o_made]
  kernel_rfl
theorem o_new_eq : Builtin.«object.__new__» ⟨[.type "object"], []⟩ = (Bind.madeHere "object.__new__" (.type "object") >>= fun _ => newObj (.type "object") .plain none >>= fun v => ret v) := by kernel_rfl
theorem o_meets : Meets (Builtin.«object.__new__» ⟨[.type "object"], []⟩) (fun _ R s => R (.ok (.ret (.ref s.heap.objs.size))) { s with heap := s.heap.push { cls := .type "object", data := .plain } }) := by
  refine .of_wp fun prog w A R s h => ?_
  rw [o_new_eq, o_here]
  refine wpAny_bind (wpAny_pure ?_)
  refine wpAny_bind ?_
  refine wpAny_newObj_type ?_
  exact wpAny_pure ⟨_, rfl, h⟩
theorem o_init_meets (a : Value) : Meets (Builtin.«object.__init__» ⟨[a], []⟩) (fun _ R s => R (.ok (.ret .none)) s) :=
  .of_wp fun prog w A R s hq => wpAny_pure ⟨_, rfl, hq⟩
section
variable {prog : Program} {w : World} {A : Around} {E : Value → Shared → Prop} {s : Shared} {h₀ : Heap} {L : Addr} {m : Str → Option Value} {news : List (Addr × Obj)} {Q : Value → Shared → Prop}
theorem call_object (F : Fr h₀ L s.heap m) (N : News h₀ L s.heap news)
    (h : ∀ D h', Fr h₀ L h' m → News h₀ L h' ((D, { cls := .type "object", data := .plain }) :: news) → (∀ p ∈ news, p.1 < D) → Q (.ref D) { s with heap := h' }) :
    wpAny (model prog w) A (call (.type "object") []) Q E s := by
  refine callType_meets (Q₁ := fun obj s₁ => obj = .ref s.heap.objs.size ∧ s₁ = { s with heap := s.heap.push { cls := .type "object", data := .plain } }) o_called o_typeCall o_newCall o_entry_new PySem.F.entry_object_init o_meets ⟨rfl, rfl⟩ fun obj s₁ hq => ?_
  obtain ⟨rfl, rfl⟩ := hq
  have g : (s.heap.push { cls := .type "object", data := .plain }).get? s.heap.objs.size = some { cls := .type "object", data := .plain } := Heap.get?_push_size _ rfl
  refine ⟨⟨_, g, rfl⟩, o_args_init _, _, o_init_meets _, rfl, ?_⟩
  exact h _ _ (F.keeps fun _ _ e => Heap.get?_push_of_some _ e) (news_pushed F N (fun _ _ e => Heap.get?_push_of_some _ e) g rfl) fun q hq => Heap.lt_size (N q hq).1
end
end Mine
end
section
open PySem PySem.W PySem.Calls PyProof.Rows
set_option maxRecDepth 100000
set_option maxHeartbeats 8000000
namespace Mine
theorem law_post (ns : List Int) : PySem.Challenge.rw_kq0056_01.row.claim.post [ofPy (PyData.list (List.map PyData.int ns))] (WData.bool true) [ofPy (PyData.list (List.map PyData.int ns))] = true := by
  refine' postW_of ?s ?v ?e
  case s => o_shape
  case v => wtm_val
  case e => w_fin
end Mine
end
section
open Lean Meta PySem PySem.W PySem.Calls PyProof.Rows
set_option maxRecDepth 100000
set_option maxHeartbeats 800000
namespace Mine
local macro_rules | `(tactic| k_room) => `(tactic| ktr_room)
local macro_rules | `(tactic| ktr_room) => `(tactic| walk_at "mine:room")
local macro_rules | `(tactic| ktr_units) => `(tactic| walk_at "mine:units")
local macro_rules | `(tactic| kst_all1) => `(tactic| walk_at "mine:all1")
local macro_rules | `(tactic| kst_allIn) => `(tactic| walk_at "mine:allin")
local macro_rules | `(tactic| k_all) => `(tactic| walk_at "mine:all")
local macro_rules | `(tactic| cell_enter) => `(tactic| walk_at "mine:cell")
local macro_rules | `(tactic| walk_at "mine:zeta") => `(tactic| ((rename Fr _ _ _ _ => lF'); (dsimp (config := { zetaDelta := true }) only at lF')))
local macro_rules | `(tactic| walk_at $s:str) => `(tactic| k_extra $s)
section
theorem kz_Enc : True := by
  k_with_none
  k_with "mine:room" => (first | exact Room.lt (by assumption) | exact Room.lt (Room.deep (k := 1) (e := 0) (by assumption) (by decide)) | exact Room.lt (Room.deep (k := 1) (e := 0) (Room.deep (k := 1) (e := 1) (by assumption) (by decide)) (by decide)) | exact Room.deep (by assumption) (by decide) | ((with_reducible show Room _ _); unfold Room; decide) | ((with_reducible show Room _ _); unfold Room; simp only [depth_under_make, depth_under_kw, depth_in1, depth_deeper, depth_caller]; decide))
  k_with "mine:units" => (first | exact Units.deep (by assumption) (by decide) | exact Units.deep2 (by assumption) (by decide) | ((with_reducible show Units _ _); unfold Units; ktr_units))
  k_with "mine:all1" => (first | exact fnil | (refine fcons (by with_unfolding_all rfl) ?_; walk_at "mine:all1"))
  k_with "mine:allin" => (first | exact fnil | (refine fcons (by k_memK) ?_; walk_at "mine:allin") | (intro p9 h9; kst_mem))
  k_with "mine:all" => (first | exact fnil | (refine' fcons ?mqfa ?mqfb; (case mqfa => k_ne); (case mqfb => walk_at "mine:all")))
  k_with "mine:cell" => (first
  | (refine' callP ?mqk1 ?mqk2 ?mqk3 ?mqk5 ?mqkA ?mqkF ?mqkK ?mqk6 ?mqk7 ?mqk8 ?mqk9 ?mqkB ?_ ?mqc2 ?mqc3 ?mqc4 ?mqc5; (case mqkA => exact rfl); (case mqkF => exact rfl); (case mqkK => assumption); (case mqk1 => k_asm); (case mqk2 => k_asm); (case mqk3 => k_asm); (case mqk5 => k_asm); (case mqk6 => k_is); (case mqk7 => k_is); (case mqk8 => ktr_room); (case mqk9 => first | exact BindsTo.of_eq rfl | exact binds_K (by k_in) rfl (by k_is) rfl rfl rfl); (case mqc5 => decide); (case mqkB => exact locs rfl); (case mqc2 => exact rfl); (case mqc3 => exact rfl); (case mqc4 => exact rfl); k_whole; intro _ _ _ _ _ _ _ _ _ _; walk_at "mine:let"; (try dsimp only); (try k_fold); (try walk_at "mine:env"))
  | (refine' callPC ?mqk1 ?mqk2 ?mqk3 ?mqk5 ?mqkA ?mqkF ?mqkK ?mqk6 ?mqk7 ?mqk8 ?mqk9 ?mqkB ?mqkD ?_ ?mqc2 ?mqc3 ?mqc4; (case mqkA => exact rfl); (case mqkF => exact rfl); (case mqkK => assumption); (case mqk1 => k_asm); (case mqk2 => k_asm); (case mqk3 => k_asm); (case mqk5 => k_asm); (case mqk6 => k_is); (case mqk7 => k_is); (case mqk8 => ktr_room); (case mqk9 => first | exact BindsTo.of_eq rfl | exact binds_K (by k_in) rfl (by k_is) rfl rfl rfl); (case mqkB => exact rfl); (case mqkD => decide +kernel); (case mqc2 => exact rfl); (case mqc3 => exact rfl); (case mqc4 => exact rfl); k_whole; intro _ _ _ _ _ _ _ _ N' Y' _ _ _; walk_at "mine:let"; k_cells Y'; (try simp only [List.cons_append, List.nil_append] at N'); (try (revert N'; intro _)); (try dsimp only); (try k_fold); (try walk_at "mine:env")))
  k_with "call type:bytes" => (k_here; (with_reducible show wpAny _ _ (call (Value.type "bytes") [Value.ref _]) _ _ _); k_dflt (refine' KBa.make_K ?mqkbaF ?mqkbaN ?mqkbah ?mqkbal ?mqkbai ?mqkbar ?mqkban ?_; (case mqkbaF => k_asm); (case mqkbaN => k_asm); (case mqkbah => rfl); (case mqkbal => exact News.isList (by k_asm) (by k_mem)); (case mqkbai => first | exact IntsAre.cons _ _ (IntsAre.cons _ _ (IntsAre.cons _ _ (IntsAre.cons _ _ IntsAre.nil))) | exact IntsAre.cons _ _ (IntsAre.cons _ _ IntsAre.nil) | exact IntsAre.cons _ _ IntsAre.nil); (case mqkbar => (repeat (first | exact fnil | refine fcons ⟨by omega, by omega⟩ ?_))); (case mqkban => exact Nat.le_of_ble_eq_true rfl); k_whole); intro _ _ _ _ _ _)
  k_with "call type:list" => (k_here; (with_reducible show wpAny _ _ (call (Value.type "list") [Value.bytes _ _]) _ _ _); first
  | (k_dflt (refine' list_bytes1 ?mqk1 ?mqk2 ?mqk3 ?mqk4 ?_; (case mqk1 => k_asm); (case mqk2 => k_asm); (case mqk3 => rfl); (case mqk4 => assumption)); intro _ _ _ _ _ _ _ l1; (try k_lt l1); (try (revert l1; intro _)))
  | (k_dflt (refine' list_bytes2 ?mqk1 ?mqk2 ?mqk3 ?mqk4 ?_; (case mqk1 => k_asm); (case mqk2 => k_asm); (case mqk3 => rfl); (case mqk4 => assumption)); intro _ _ _ _ _ _ _ _ l1; (try k_lt l1); (try (revert l1; intro _))))
  k_with "exec For Name BinOp cons nil" => (k_here; (with_unfolding_all refine' For_invVF ?mqkF ?mqk1 ?mqk2 ?_; (case mqkF => k_asm); (case mqk1 => exact rfl); (case mqk2 => exact rfl); k_whole))
  k_with "mine:env" => ((show (let AA := _; let EE := _; wpAny _ AA (execs _ EE) _ _ _)); intro AA EE)
  k_with "mine:let" => ((rename Fr _ _ _ _ => lF'); refine fr_let lF' ?_; clear lF'; intro _ _)
  k_with "storeName" => (k_here; k_dflt (refine' storeM ?mqF ?mqN ?_ ?mqhk ?mqhx; (case mqF => k_asm); (case mqN => k_asm); (case mqhk => exact rfl); (case mqhx => exact rfl); k_whole); intro _ _ _ _ _; (try k_sweep))
  k_with "mine:turn" => (walk_at "mine:let"; (show wpAny _ _ _ _ _ _); k_fold)
  k_with "mine:led" => (intro p hp; revert p; repeat (first | exact fnil | refine fcons rfl ?_))
  k_with "mine:same" => ((try dsimp (config := { zetaDelta := true }) only); ksw_same)
  k_with "mine:used" => (intro _ _ _ _ _ _ r9; (obtain ⟨_, e9⟩ := r9); subst e9; (try dsimp only); (try k_fold))
  k_with "mine:usedN" => (intro _ _ _ _ _ _ _ _ _ _; (try dsimp only); (try k_fold))
  k_with "mine:forG" => (k_dflt (refine' For_G ?mqkF ?_; (case mqkF => k_asm)))
  k_with "mine:forT" => (k_dflt (refine' For_T ?mqkF ?_; (case mqkF => k_asm)))
  k_with "call type:type" => (k_here; (with_reducible show wpAny _ _ (call _ [Value.bytes _ _]) _ _ _); refine call_type_of (Tx := "bytes") rfl (by decide +kernel) ?_)
  k_with "pyIter bytes" => ((with_reducible show wpAny _ _ (pyIter (Value.bytes _ _)) (fun it s₂ => LoopAtV _ _ _ _ _ _ _ _ _ it s₂) _ _); k_here; k_bytesUnr)
  k_with "subscriptTail" => (k_here; (with_reducible show wpAny _ _ (subscriptTail (Expr.Name "_B64" _) _ (Value.bytes _ _) (Value.int _ _)) _ _ _); with_unfolding_all refine' b64_item ?mqh0 ?mqh1 (fun _ _ _ _ => ?_) ?mqhs ?mqht; (case mqh0 => first | assumption | exact Nat.le_trans (by assumption) (by decide) | omega); (case mqh1 => first | assumption | exact Nat.le_trans (by assumption) (by decide) | omega); (case mqhs => with_unfolding_all rfl); (case mqht => intro _; with_unfolding_all rfl))
  k_with "binaryOp RShift int int" => (k_here; first
  | (refine' rsh2 ?mqhn ?_; (case mqhn => first | assumption | exact Nat.le_trans (by assumption) (by decide) | omega))
  | (refine' rsh4 ?mqhn ?_; (case mqhn => first | assumption | exact Nat.le_trans (by assumption) (by decide) | omega)))
  k_with "binaryOp LShift int int" => (k_here; first
  | (refine' lsh_ 8 256 ?mqhn ?mqhk ?mqhP ?mqh0 ?mqh1 ?_; (case mqhn => decide); (case mqhk => decide); (case mqhP => decide); (case mqh0 => first | assumption | exact Nat.le_trans (by assumption) (by decide) | omega); (case mqh1 => first | assumption | exact Nat.le_trans (by assumption) (by decide) | omega))
  | (refine' lsh_ 6 64 ?mqhn ?mqhk ?mqhP ?mqh0 ?mqh1 ?_; (case mqhn => decide); (case mqhk => decide); (case mqhP => decide); (case mqh0 => first | assumption | exact Nat.le_trans (by assumption) (by decide) | omega); (case mqh1 => first | assumption | exact Nat.le_trans (by assumption) (by decide) | omega))
  | (refine' lsh_ 4 16 ?mqhn ?mqhk ?mqhP ?mqh0 ?mqh1 ?_; (case mqhn => decide); (case mqhk => decide); (case mqhP => decide); (case mqh0 => first | assumption | exact Nat.le_trans (by assumption) (by decide) | omega); (case mqh1 => first | assumption | exact Nat.le_trans (by assumption) (by decide) | omega))
  | (refine' lsh_ 2 4 ?mqhn ?mqhk ?mqhP ?mqh0 ?mqh1 ?_; (case mqhn => decide); (case mqhk => decide); (case mqhP => decide); (case mqh0 => first | assumption | exact Nat.le_trans (by assumption) (by decide) | omega); (case mqh1 => first | assumption | exact Nat.le_trans (by assumption) (by decide) | omega)))
  k_with "binaryOp BitOr int int" => (k_here; first
  | (refine' or_ 8 256 ?mqhP ?mqh0 ?mqh1 ?mqh2 ?_; (case mqhP => decide); (case mqh0 => first | assumption | exact Nat.le_trans (by assumption) (by decide) | omega); (case mqh1 => first | assumption | exact Nat.le_trans (by assumption) (by decide) | omega); (case mqh2 => first | assumption | exact Nat.le_trans (by assumption) (by decide) | omega))
  | (refine' or_ 6 64 ?mqhP ?mqh0 ?mqh1 ?mqh2 ?_; (case mqhP => decide); (case mqh0 => first | assumption | exact Nat.le_trans (by assumption) (by decide) | omega); (case mqh1 => first | assumption | exact Nat.le_trans (by assumption) (by decide) | omega); (case mqh2 => first | assumption | exact Nat.le_trans (by assumption) (by decide) | omega))
  | (refine' or_ 4 16 ?mqhP ?mqh0 ?mqh1 ?mqh2 ?_; (case mqhP => decide); (case mqh0 => first | assumption | exact Nat.le_trans (by assumption) (by decide) | omega); (case mqh1 => first | assumption | exact Nat.le_trans (by assumption) (by decide) | omega); (case mqh2 => first | assumption | exact Nat.le_trans (by assumption) (by decide) | omega))
  | (refine' or_ 2 4 ?mqhP ?mqh0 ?mqh1 ?mqh2 ?_; (case mqhP => decide); (case mqh0 => first | assumption | exact Nat.le_trans (by assumption) (by decide) | omega); (case mqh1 => first | assumption | exact Nat.le_trans (by assumption) (by decide) | omega); (case mqh2 => first | assumption | exact Nat.le_trans (by assumption) (by decide) | omega)))
  k_with "binaryOp BitAnd int int" => (k_here; first
  | refine and65535 ?_
  | refine and63 ?_
  | refine and15 ?_
  | refine and3 ?_)
  k_with "getMethod bytes" => (k_here; (with_reducible refine method_translate ?_))
  k_with "call builtin:bytes.translate" => (k_here; first
  | (refine' call_urlenc ?mqh1 ?mqh2 (fun _ _ => ?_); (case mqh1 => assumption); (case mqh2 => first | kernel_rfl | decide +kernel))
  | (refine' call_urldec ?mqh1 ?mqh2 (fun _ _ => ?_); (case mqh1 => assumption); (case mqh2 => first | kernel_rfl | decide +kernel)))
  k_with "call type:str" => (k_here; (with_reducible show wpAny _ _ (call (Value.type "str") [Value.bytes _ _, Value.str _ _]) _ _ _); first
  | (refine' call_strword0 ?mqh1 (fun _ _ => ?_); (case mqh1 => assumption))
  | (refine' call_strword ?mqh1 (fun _ _ => ?_); (case mqh1 => assumption)))
  k_with "getMethod str" => (k_here; first | with_reducible refine m_encode ?_ | with_reducible refine m_translate ?_)
  k_with "call builtin:str.encode" => (k_here; refine' call_encword ?mqh1 (fun _ _ => ?_); (case mqh1 => assumption))
  k_with "binaryOp Add str str" => (k_here; refine' add_SS ?mqhx ?mqhy ?mqhsz (fun _ _ => ?_); (case mqhx => first | rfl | exact ofS _ | exact S_of _); (case mqhy => first | rfl | exact ofS _ | exact S_of _); (case mqhsz => ((try simp only [List.length_append, List.length_cons, List.length_nil, List.length_replicate]); omega)))
  k_with "binaryOp Mult str int" => (k_here; refine' mul_S ?mqhx ?mqh0 ?mqh1 (fun _ _ => ?_); (case mqhx => exact ofS _); (case mqh0 => first | assumption | exact Nat.le_trans (by assumption) (by decide) | omega); (case mqh1 => first | assumption | exact Nat.le_trans (by assumption) (by decide) | omega))
  k_with "subscriptTail" => (k_here; (with_reducible show wpAny _ _ (subscriptTail _ _ (Value.str _ _) (Value.int _ _)) _ _ _); with_unfolding_all refine' item_S ?mqhx ?mqh0 ?mqh1 ?mqh2 (fun _ _ => ?_) ?mqhs ?mqht; (case mqhx => first | rfl | exact ofS _ | exact S_of _); (case mqh0 => ktr_rel); (case mqh1 => ktr_rel); (case mqh2 => ktr_rel); (case mqhs => with_unfolding_all rfl); (case mqht => intro _; with_unfolding_all rfl))
  k_with "eval Constant int" => (with_reducible refine const_i ?_)
  k_with "binaryOp Add int int" => (with_reducible refine add_i ?_)
  k_with "binaryOp Sub int int" => (with_reducible refine sub_i ?_)
  trivial
noncomputable def lcI (l : List Int) : Nat → Int
  | 0 => 0
  | i + 1 => (lcI l i * 256 + l.getD i 0) % 65536
noncomputable def lb : Nat → Int
  | 0 => 0
  | 1 => 2
  | _ => 4
noncomputable def outI (l : List Int) : Nat → List Int
  | 0 => []
  | 1 => [b64L.getD (lcI l 1 / 4 % 64).toNat 0]
  | _ => [b64L.getD (lcI l 1 / 4 % 64).toNat 0, b64L.getD (lcI l 2 / 16 % 64).toNat 0]
theorem outI_len (l : List Int) (i : Nat) : (outI l i).length ≤ 2 := by
  match i with
  | 0 => exact Nat.zero_le _
  | 1 => exact Nat.le_succ _
  | _ + 2 => exact Nat.le_refl _
theorem enc_end1 : ∀ l ∈ rowTab, l.length = 1 → outI l 1 ++ [b64L.getD (lcI l 1 % 4 * 16).toNat 0] ++ [61] ++ [61] = encL l := by decide +kernel
theorem enc_end2 : ∀ l ∈ rowTab, l.length = 2 → outI l 2 ++ [b64L.getD (lcI l 2 % 16 * 4).toNat 0] ++ [61] = encL l := by decide +kernel
theorem enc_in : ∀ l ∈ rowTab, ∀ k ∈ encL l, 0 ≤ k ∧ k < 256 := by decide +kernel
theorem enc_len : ∀ l ∈ rowTab, (encL l).length ≤ 16777216 := by decide +kernel
theorem row_in : ∀ l ∈ rowTab, ∀ i < 2, 0 ≤ l.getD i 0 ∧ l.getD i 0 < 256 := by decide +kernel
theorem lcI_in (l : List Int) : ∀ i, 0 ≤ lcI l i ∧ lcI l i < 65536
  | 0 => ⟨Int.le_refl 0, by show (0 : Int) < 65536; decide⟩
  | i + 1 => ⟨Int.emod_nonneg _ (by decide), Int.emod_lt_of_pos _ (by decide)⟩
theorem kw_Jx2 : True := by
  k_with "call builtin:list.append" => (k_here; (with_reducible show wpAny _ _ (call (Value.builtin _) [Value.ref _, _]) _ _ _); k_dflt (refine' append_K ?mqk1 ?mqk2 ?mqk3 ?_ ?mqz; (case mqk1 => k_asm); (case mqk2 => k_asm); (case mqk3 => k_upd); (case mqz => (rw [sizeLine_eq]; simp only [List.size_toArray, List.length_append, List.length_cons, List.length_nil]; omega)); k_whole); intro _ _ N'; (try simp only [List.push_toArray] at N'); (try (revert N'; intro _)))
  trivial
theorem kw_Jx3 : True := by
  k_with "exec For Name Name cons nil" => (k_here; walk_at "mine:forG")
  trivial
theorem kw_Jx4 : True := by
  k_with "pyIter bytes" => (k_here; refine halt ?_)
  trivial
theorem kw_Jx5 : True := by
  k_with "call type:bytes" => (k_here; refine halt ?_)
  trivial
theorem kw_Jx6 : True := by
  k_with "binaryOp RShift int int" => (k_here; first | refine rsh2 (by decide) ?_ | refine rsh4 (by decide) ?_)
  trivial
theorem c_b2a (w : World) (l : List Int) (hl : l ∈ rowTab) (t : Tok) :
    Spec w 4 122 [.bytes (byteArr l) t] [(Str.ofString "newline", .bool false)] (fun _ => True) (fun _ _ v => ∃ t, v = .bytes (byteArr (encL l)) t) := by
  have hb := row_ints l hl
  have hlen : l.length = 1 ∨ l.length = 2 := by rcases row_cases hl with ⟨_, _, rfl⟩ | ⟨_, _, _, _, rfl⟩ <;> simp
  unfold Spec
  k_fill
  intros; rename_i hret
  refine wpAny_call ?_
  k_dflt cell_enter
  rename _ = Shared.heap _ => hgg
  k_steps
  rename_i T b1 b2 c1 c2 c3 c4 c5 c6 c7 c8 c9 F N
  refine fr_gen F fun m1 hm1 F => ?_
  refine for_bytes (l := l) (σ := Tok × Tok × List Value × Nat) (fun _ c => [(T, W.listOf c.2.2.1.toArray c.2.2.2)]) (fun i c => [(Str.ofString "leftchar", .int (lcI l i) c.1), (Str.ofString "leftbits", .int (lb i) c.2.1), (Str.ofString "out", .ref T), (Str.ofString "newline", .bool false)]) (fun i c => IntsAre c.2.2.1 (outI l i)) [Str.ofString "b"] (_, _, [], 0)
    (by rfl) (by rfl) (by rfl) hb F N (fun p hp => (hm1 _).trans (by revert p; repeat (first | exact fnil | refine fcons rfl ?_))) .nil ?_ ?_
  · intro g i c u v I oI h tk E' hi hinv hv F N off
    obtain ⟨t1, rfl⟩ := hv
    have hTI : T ≠ I := off _ (.head _)
    have hIT : I ≠ T := Ne.symm hTI
    obtain ⟨g1, g2⟩ := row_in l hl i (by omega)
    obtain ⟨e1, e2⟩ := lcI_in l i
    have b7 := outI_len l i
    rw [← hinv.length] at b7
    rcases (by omega : i = 0 ∨ i = 1) with rfl | rfl
    · dsimp only [lb, kstB, List.cons_append, List.nil_append] at F N ⊢
      refine wpAny_mono (?_ : wpAny _ _ _ _ (fun _ _ => False) _) (fun _ _ x => x) (fun _ _ x => False.elim x)
      walk_at "mine:let"
      k_fold
      show (let AA := _; let EE := _; wpAny _ AA (execs _ EE) _ _ _)
      intro AA EE
      k_steps
      rename_i h3 F3 N3
      dsimp (config := { zetaDelta := true }) only at F3
      refine for_end (c := (_, _, _, _)) F3 N3 (by k_mem) (by kst_in) (fun p hp => by rw [List.mem_singleton.mp hp]; exact hTI) (by kst_all) (by ksw_same) ?_
      exact ints_snoc hinv (b64L.getD ((lcI l 0 * 256 + l.getD 0 0) % 65536 / 4 % 64).toNat 0) _
    · dsimp only [lb, kstB, List.cons_append, List.nil_append] at F N ⊢
      refine wpAny_mono (?_ : wpAny _ _ _ _ (fun _ _ => False) _) (fun _ _ x => x) (fun _ _ x => False.elim x)
      walk_at "mine:let"
      k_fold
      show (let AA := _; let EE := _; wpAny _ AA (execs _ EE) _ _ _)
      intro AA EE
      k_steps
      rename_i h3 F3 N3
      dsimp (config := { zetaDelta := true }) only at F3
      refine for_end (c := (_, _, _, _)) F3 N3 (by k_mem) (by kst_in) (fun p hp => by rw [List.mem_singleton.mp hp]; exact hTI) (by kst_all) (by ksw_same) ?_
      exact ints_snoc hinv (b64L.getD ((lcI l 1 * 256 + l.getD 1 0) % 65536 / 16 % 64).toNat 0) _
  · intro g c u h tk hinv F N
    have b7 := outI_len l l.length
    rw [← hinv.length] at b7
    obtain ⟨e1, e2⟩ := lcI_in l l.length
    rcases hlen with hn | hn
    · rw [hn] at F hinv e1 e2
      dsimp only [lb, kstB] at F N ⊢
      walk_at "mine:let"
      show wpAny _ _ _ _ _ _
      k_steps
      show wpAny _ _ _ _ _ _
      k_dflt (refine KBa.make_K (ns := encL l) (by k_asm) (by k_asm) (by rfl) (News.isList (by k_asm) (by k_mem)) (by rw [← enc_end1 l hl hn]; exact ints_snoc (ints_snoc (ints_snoc hinv _ _) _ _) _ _) (enc_in l hl) (enc_len l hl) ?_)
      intro h' t' k' F' N' _
      k_steps
      exact hret _ _ _ (by rw [← hgg]; assumption) ⟨_, rfl⟩
    · rw [hn] at F hinv e1 e2
      dsimp only [lb, kstB] at F N ⊢
      walk_at "mine:let"
      show wpAny _ _ _ _ _ _
      k_steps
      show wpAny _ _ _ _ _ _
      k_dflt (refine KBa.make_K (ns := encL l) (by k_asm) (by k_asm) (by rfl) (News.isList (by k_asm) (by k_mem)) (by rw [← enc_end2 l hl hn]; exact ints_snoc (ints_snoc hinv _ _) _ _) (enc_in l hl) (enc_len l hl) ?_)
      intro h' t' k' F' N' _
      k_steps
      exact hret _ _ _ (by rw [← hgg]; assumption) ⟨_, rfl⟩
theorem kw_j1 : True := by
  k_with "call ref" => (k_here; (with_reducible show wpAny _ _ (call (Value.ref 122) _ _) _ _ _); k_dflt (refine' Spec.use (c_b2a _ _ (by assumption) _) ?mqk1 ?mqk2 ?mqk3 ?mqk4 ?mqk5 ?mqkK ?mqkd ?mqku ?mqkp ?_; (case mqk1 => k_asm); (case mqk2 => k_asm); (case mqk3 => k_asm); (case mqk4 => k_asm); (case mqk5 => k_asm); (case mqkK => first | exact rfl | assumption); (case mqkd => ktr_room); (case mqku => ktr_units); (case mqkp => exact trivial)); walk_at "mine:used")
  trivial

theorem c_b64encode (w : World) (l : List Int) (hl : l ∈ rowTab) (t : Tok) :
    Spec w 5 130 [.bytes (byteArr l) t] [] (fun _ => True) (fun _ _ v => ∃ t, v = .bytes (byteArr (encL l)) t) := by
  unfold Spec
  k_fill
  intros; rename_i hret
  refine wpAny_call ?_
  k_dflt cell_enter
  rename _ = Shared.heap _ => hgg
  k_steps
  exact hret _ _ _ (by rw [← hgg]; assumption) ⟨_, rfl⟩
end
section
theorem kz_Wri : True := by
  k_with_none
  k_with "mine:room" => (first | exact Room.lt (by assumption) | exact Room.lt (Room.deep (k := 1) (e := 0) (by assumption) (by decide)) | exact Room.lt (Room.deep (k := 1) (e := 0) (Room.deep (k := 1) (e := 1) (by assumption) (by decide)) (by decide)) | exact Room.deep (by assumption) (by decide) | ((with_reducible show Room _ _); unfold Room; decide) | ((with_reducible show Room _ _); unfold Room; simp only [depth_under_make, depth_under_kw, depth_in1, depth_deeper, depth_caller]; decide))
  k_with "mine:units" => (first | exact Units.deep (by assumption) (by decide) | exact Units.deep2 (by assumption) (by decide) | ((with_reducible show Units _ _); unfold Units; ktr_units))
  k_with "mine:all1" => (first | exact fnil | (refine fcons (by with_unfolding_all rfl) ?_; walk_at "mine:all1"))
  k_with "mine:allin" => (first | exact fnil | (refine fcons (by k_memK) ?_; walk_at "mine:allin") | (intro p9 h9; kst_mem))
  k_with "mine:all" => (first | exact fnil | (refine' fcons ?mqfa ?mqfb; (case mqfa => k_ne); (case mqfb => walk_at "mine:all")))
  k_with "mine:cell" => (first
  | (refine' callP ?mqk1 ?mqk2 ?mqk3 ?mqk5 ?mqkA ?mqkF ?mqkK ?mqk6 ?mqk7 ?mqk8 ?mqk9 ?mqkB ?_ ?mqc2 ?mqc3 ?mqc4 ?mqc5; (case mqkA => exact rfl); (case mqkF => exact rfl); (case mqkK => assumption); (case mqk1 => k_asm); (case mqk2 => k_asm); (case mqk3 => k_asm); (case mqk5 => k_asm); (case mqk6 => k_is); (case mqk7 => k_is); (case mqk8 => ktr_room); (case mqk9 => first | exact BindsTo.of_eq rfl | exact binds_K (by k_in) rfl (by k_is) rfl rfl rfl); (case mqc5 => decide); (case mqkB => exact locs rfl); (case mqc2 => exact rfl); (case mqc3 => exact rfl); (case mqc4 => exact rfl); k_whole; intro _ _ _ _ _ _ _ _ _ _; walk_at "mine:let"; (try dsimp only); (try k_fold); (try walk_at "mine:env"))
  | (refine' callPC ?mqk1 ?mqk2 ?mqk3 ?mqk5 ?mqkA ?mqkF ?mqkK ?mqk6 ?mqk7 ?mqk8 ?mqk9 ?mqkB ?mqkD ?_ ?mqc2 ?mqc3 ?mqc4; (case mqkA => exact rfl); (case mqkF => exact rfl); (case mqkK => assumption); (case mqk1 => k_asm); (case mqk2 => k_asm); (case mqk3 => k_asm); (case mqk5 => k_asm); (case mqk6 => k_is); (case mqk7 => k_is); (case mqk8 => ktr_room); (case mqk9 => first | exact BindsTo.of_eq rfl | exact binds_K (by k_in) rfl (by k_is) rfl rfl rfl); (case mqkB => exact rfl); (case mqkD => decide +kernel); (case mqc2 => exact rfl); (case mqc3 => exact rfl); (case mqc4 => exact rfl); k_whole; intro _ _ _ _ _ _ _ _ N' Y' _ _ _; walk_at "mine:let"; k_cells Y'; (try simp only [List.cons_append, List.nil_append] at N'); (try (revert N'; intro _)); (try dsimp only); (try k_fold); (try walk_at "mine:env")))
  k_with "call type:bytes" => (k_here; (with_reducible show wpAny _ _ (call (Value.type "bytes") [Value.ref _]) _ _ _); k_dflt (refine' KBa.make_K ?mqkbaF ?mqkbaN ?mqkbah ?mqkbal ?mqkbai ?mqkbar ?mqkban ?_; (case mqkbaF => k_asm); (case mqkbaN => k_asm); (case mqkbah => rfl); (case mqkbal => exact News.isList (by k_asm) (by k_mem)); (case mqkbai => first | exact IntsAre.cons _ _ (IntsAre.cons _ _ (IntsAre.cons _ _ (IntsAre.cons _ _ IntsAre.nil))) | exact IntsAre.cons _ _ (IntsAre.cons _ _ IntsAre.nil) | exact IntsAre.cons _ _ IntsAre.nil); (case mqkbar => (repeat (first | exact fnil | refine fcons ⟨by omega, by omega⟩ ?_))); (case mqkban => exact Nat.le_of_ble_eq_true rfl); k_whole); intro _ _ _ _ _ _)
  k_with "call type:list" => (k_here; (with_reducible show wpAny _ _ (call (Value.type "list") [Value.bytes _ _]) _ _ _); first
  | (k_dflt (refine' list_bytes1 ?mqk1 ?mqk2 ?mqk3 ?mqk4 ?_; (case mqk1 => k_asm); (case mqk2 => k_asm); (case mqk3 => rfl); (case mqk4 => assumption)); intro _ _ _ _ _ _ _ l1; (try k_lt l1); (try (revert l1; intro _)))
  | (k_dflt (refine' list_bytes2 ?mqk1 ?mqk2 ?mqk3 ?mqk4 ?_; (case mqk1 => k_asm); (case mqk2 => k_asm); (case mqk3 => rfl); (case mqk4 => assumption)); intro _ _ _ _ _ _ _ _ l1; (try k_lt l1); (try (revert l1; intro _))))
  k_with "exec For Name BinOp cons nil" => (k_here; (with_unfolding_all refine' For_invVF ?mqkF ?mqk1 ?mqk2 ?_; (case mqkF => k_asm); (case mqk1 => exact rfl); (case mqk2 => exact rfl); k_whole))
  k_with "mine:env" => ((show (let AA := _; let EE := _; wpAny _ AA (execs _ EE) _ _ _)); intro AA EE)
  k_with "mine:let" => ((rename Fr _ _ _ _ => lF'); refine fr_let lF' ?_; clear lF'; intro _ _)
  k_with "storeName" => (k_here; k_dflt (refine' storeM ?mqF ?mqN ?_ ?mqhk ?mqhx; (case mqF => k_asm); (case mqN => k_asm); (case mqhk => exact rfl); (case mqhx => exact rfl); k_whole); intro _ _ _ _ _; (try k_sweep))
  k_with "mine:turn" => (walk_at "mine:let"; (show wpAny _ _ _ _ _ _); k_fold)
  k_with "mine:led" => (intro p hp; revert p; repeat (first | exact fnil | refine fcons rfl ?_))
  k_with "mine:same" => ((try dsimp (config := { zetaDelta := true }) only); ksw_same)
  k_with "mine:used" => (intro _ _ _ _ _ _ r9; (obtain ⟨_, e9⟩ := r9); subst e9; (try dsimp only); (try k_fold))
  k_with "mine:usedN" => (intro _ _ _ _ _ _ _ _ _ _; (try dsimp only); (try k_fold))
  k_with "mine:forG" => (k_dflt (refine' For_G ?mqkF ?_; (case mqkF => k_asm)))
  k_with "mine:forT" => (k_dflt (refine' For_T ?mqkF ?_; (case mqkF => k_asm)))
  k_with "call type:type" => (k_here; (with_reducible show wpAny _ _ (call _ [Value.bytes _ _]) _ _ _); refine call_type_of (Tx := "bytes") rfl (by decide +kernel) ?_)
  k_with "pyIter bytes" => ((with_reducible show wpAny _ _ (pyIter (Value.bytes _ _)) (fun it s₂ => LoopAtV _ _ _ _ _ _ _ _ _ it s₂) _ _); k_here; k_bytesUnr)
  k_with "subscriptTail" => (k_here; (with_reducible show wpAny _ _ (subscriptTail (Expr.Name "_B64" _) _ (Value.bytes _ _) (Value.int _ _)) _ _ _); with_unfolding_all refine' b64_item ?mqh0 ?mqh1 (fun _ _ _ _ => ?_) ?mqhs ?mqht; (case mqh0 => first | assumption | exact Nat.le_trans (by assumption) (by decide) | omega); (case mqh1 => first | assumption | exact Nat.le_trans (by assumption) (by decide) | omega); (case mqhs => with_unfolding_all rfl); (case mqht => intro _; with_unfolding_all rfl))
  k_with "binaryOp RShift int int" => (k_here; first
  | (refine' rsh2 ?mqhn ?_; (case mqhn => first | assumption | exact Nat.le_trans (by assumption) (by decide) | omega))
  | (refine' rsh4 ?mqhn ?_; (case mqhn => first | assumption | exact Nat.le_trans (by assumption) (by decide) | omega)))
  k_with "binaryOp LShift int int" => (k_here; first
  | (refine' lsh_ 8 256 ?mqhn ?mqhk ?mqhP ?mqh0 ?mqh1 ?_; (case mqhn => decide); (case mqhk => decide); (case mqhP => decide); (case mqh0 => first | assumption | exact Nat.le_trans (by assumption) (by decide) | omega); (case mqh1 => first | assumption | exact Nat.le_trans (by assumption) (by decide) | omega))
  | (refine' lsh_ 6 64 ?mqhn ?mqhk ?mqhP ?mqh0 ?mqh1 ?_; (case mqhn => decide); (case mqhk => decide); (case mqhP => decide); (case mqh0 => first | assumption | exact Nat.le_trans (by assumption) (by decide) | omega); (case mqh1 => first | assumption | exact Nat.le_trans (by assumption) (by decide) | omega))
  | (refine' lsh_ 4 16 ?mqhn ?mqhk ?mqhP ?mqh0 ?mqh1 ?_; (case mqhn => decide); (case mqhk => decide); (case mqhP => decide); (case mqh0 => first | assumption | exact Nat.le_trans (by assumption) (by decide) | omega); (case mqh1 => first | assumption | exact Nat.le_trans (by assumption) (by decide) | omega))
  | (refine' lsh_ 2 4 ?mqhn ?mqhk ?mqhP ?mqh0 ?mqh1 ?_; (case mqhn => decide); (case mqhk => decide); (case mqhP => decide); (case mqh0 => first | assumption | exact Nat.le_trans (by assumption) (by decide) | omega); (case mqh1 => first | assumption | exact Nat.le_trans (by assumption) (by decide) | omega)))
  k_with "binaryOp BitOr int int" => (k_here; first
  | (refine' or_ 8 256 ?mqhP ?mqh0 ?mqh1 ?mqh2 ?_; (case mqhP => decide); (case mqh0 => first | assumption | exact Nat.le_trans (by assumption) (by decide) | omega); (case mqh1 => first | assumption | exact Nat.le_trans (by assumption) (by decide) | omega); (case mqh2 => first | assumption | exact Nat.le_trans (by assumption) (by decide) | omega))
  | (refine' or_ 6 64 ?mqhP ?mqh0 ?mqh1 ?mqh2 ?_; (case mqhP => decide); (case mqh0 => first | assumption | exact Nat.le_trans (by assumption) (by decide) | omega); (case mqh1 => first | assumption | exact Nat.le_trans (by assumption) (by decide) | omega); (case mqh2 => first | assumption | exact Nat.le_trans (by assumption) (by decide) | omega))
  | (refine' or_ 4 16 ?mqhP ?mqh0 ?mqh1 ?mqh2 ?_; (case mqhP => decide); (case mqh0 => first | assumption | exact Nat.le_trans (by assumption) (by decide) | omega); (case mqh1 => first | assumption | exact Nat.le_trans (by assumption) (by decide) | omega); (case mqh2 => first | assumption | exact Nat.le_trans (by assumption) (by decide) | omega))
  | (refine' or_ 2 4 ?mqhP ?mqh0 ?mqh1 ?mqh2 ?_; (case mqhP => decide); (case mqh0 => first | assumption | exact Nat.le_trans (by assumption) (by decide) | omega); (case mqh1 => first | assumption | exact Nat.le_trans (by assumption) (by decide) | omega); (case mqh2 => first | assumption | exact Nat.le_trans (by assumption) (by decide) | omega)))
  k_with "binaryOp BitAnd int int" => (k_here; first
  | refine and65535 ?_
  | refine and63 ?_
  | refine and15 ?_
  | refine and3 ?_)
  k_with "getMethod bytes" => (k_here; (with_reducible refine method_translate ?_))
  k_with "call builtin:bytes.translate" => (k_here; first
  | (refine' call_urlenc ?mqh1 ?mqh2 (fun _ _ => ?_); (case mqh1 => assumption); (case mqh2 => first | kernel_rfl | decide +kernel))
  | (refine' call_urldec ?mqh1 ?mqh2 (fun _ _ => ?_); (case mqh1 => assumption); (case mqh2 => first | kernel_rfl | decide +kernel)))
  k_with "call type:str" => (k_here; (with_reducible show wpAny _ _ (call (Value.type "str") [Value.bytes _ _, Value.str _ _]) _ _ _); first
  | (refine' call_strword0 ?mqh1 (fun _ _ => ?_); (case mqh1 => assumption))
  | (refine' call_strword ?mqh1 (fun _ _ => ?_); (case mqh1 => assumption)))
  k_with "getMethod str" => (k_here; first | with_reducible refine m_encode ?_ | with_reducible refine m_translate ?_)
  k_with "call builtin:str.encode" => (k_here; refine' call_encword ?mqh1 (fun _ _ => ?_); (case mqh1 => assumption))
  k_with "binaryOp Add str str" => (k_here; refine' add_SS ?mqhx ?mqhy ?mqhsz (fun _ _ => ?_); (case mqhx => first | rfl | exact ofS _ | exact S_of _); (case mqhy => first | rfl | exact ofS _ | exact S_of _); (case mqhsz => ((try simp only [List.length_append, List.length_cons, List.length_nil, List.length_replicate]); omega)))
  k_with "binaryOp Mult str int" => (k_here; refine' mul_S ?mqhx ?mqh0 ?mqh1 (fun _ _ => ?_); (case mqhx => exact ofS _); (case mqh0 => first | assumption | exact Nat.le_trans (by assumption) (by decide) | omega); (case mqh1 => first | assumption | exact Nat.le_trans (by assumption) (by decide) | omega))
  k_with "subscriptTail" => (k_here; (with_reducible show wpAny _ _ (subscriptTail _ _ (Value.str _ _) (Value.int _ _)) _ _ _); with_unfolding_all refine' item_S ?mqhx ?mqh0 ?mqh1 ?mqh2 (fun _ _ => ?_) ?mqhs ?mqht; (case mqhx => first | rfl | exact ofS _ | exact S_of _); (case mqh0 => ktr_rel); (case mqh1 => ktr_rel); (case mqh2 => ktr_rel); (case mqhs => with_unfolding_all rfl); (case mqht => intro _; with_unfolding_all rfl))
  k_with "eval Constant int" => (with_reducible refine const_i ?_)
  k_with "binaryOp Add int int" => (with_reducible refine add_i ?_)
  k_with "binaryOp Sub int int" => (with_reducible refine sub_i ?_)
  trivial
theorem kw_j2 : True := by
  k_with "call ref" => (k_here; (with_reducible show wpAny _ _ (call (Value.ref 130) _ _) _ _ _); k_dflt (refine' Spec.use (c_b64encode _ _ (by assumption) _) ?mqk1 ?mqk2 ?mqk3 ?mqk4 ?mqk5 ?mqkK ?mqkd ?mqku ?mqkp ?_; (case mqk1 => k_asm); (case mqk2 => k_asm); (case mqk3 => k_asm); (case mqk4 => k_asm); (case mqk5 => k_asm); (case mqkK => first | exact rfl | assumption); (case mqkd => ktr_room); (case mqku => ktr_units); (case mqkp => exact trivial)); walk_at "mine:used")
  trivial

theorem c_urlenc (w : World) (l : List Int) (hl : l ∈ rowTab) (t : Tok) :
    Spec w 6 145 [.bytes (byteArr l) t] [] (fun _ => True) (fun _ _ v => ∃ t, v = .bytes (byteArr (wI l true)) t) := by
  unfold Spec
  k_fill
  intros; rename_i hret
  refine wpAny_call ?_
  k_dflt cell_enter
  rename _ = Shared.heap _ => hgg
  k_steps
  exact hret _ _ _ (by rw [← hgg]; assumption) ⟨_, rfl⟩
theorem kw_j3 : True := by
  k_with "call ref" => (k_here; (with_reducible show wpAny _ _ (call (Value.ref 145) _ _) _ _ _); k_dflt (refine' Spec.use (c_urlenc _ _ (by assumption) _) ?mqk1 ?mqk2 ?mqk3 ?mqk4 ?mqk5 ?mqkK ?mqkd ?mqku ?mqkp ?_; (case mqk1 => k_asm); (case mqk2 => k_asm); (case mqk3 => k_asm); (case mqk4 => k_asm); (case mqk5 => k_asm); (case mqkK => first | exact rfl | assumption); (case mqkd => ktr_room); (case mqku => ktr_units); (case mqkp => exact trivial)); walk_at "mine:used")
  trivial

theorem c_written (w : World) (l : List Int) (hl : l ∈ rowTab) (t : Tok) (k : Int) (u : Tok) :
    Spec w 7 190 [.bytes (byteArr l) t, .int k u] [] (fun _ => True) (fun _ _ v => ∃ t, v = .str (wordS l (par k)) t) := by
  unfold Spec
  k_fill
  intros; rename_i hret
  refine wpAny_call ?_
  k_dflt cell_enter
  rename _ = Shared.heap _ => hgg
  k_steps
  · exact hret _ _ _ (by rw [← hgg]; assumption) ⟨_, by rw [par_t (k := k) (by first | assumption | omega)]⟩
  · exact hret _ _ _ (by rw [← hgg]; assumption) ⟨_, by rw [par_f (k := k) (by first | assumption | omega)]⟩
end
section
theorem kz_Oct : True := by
  k_with_none
  k_with "mine:room" => (first | exact Room.lt (by assumption) | exact Room.lt (Room.deep (k := 1) (e := 0) (by assumption) (by decide)) | exact Room.lt (Room.deep (k := 1) (e := 0) (Room.deep (k := 1) (e := 1) (by assumption) (by decide)) (by decide)) | exact Room.deep (by assumption) (by decide) | ((with_reducible show Room _ _); unfold Room; decide) | ((with_reducible show Room _ _); unfold Room; simp only [depth_under_make, depth_under_kw, depth_in1, depth_deeper, depth_caller]; decide))
  k_with "mine:units" => (first | exact Units.deep (by assumption) (by decide) | exact Units.deep2 (by assumption) (by decide) | ((with_reducible show Units _ _); unfold Units; ktr_units))
  k_with "mine:all1" => (first | exact fnil | (refine fcons (by with_unfolding_all rfl) ?_; walk_at "mine:all1"))
  k_with "mine:allin" => (first | exact fnil | (refine fcons (by k_memK) ?_; walk_at "mine:allin") | (intro p9 h9; kst_mem))
  k_with "mine:all" => (first | exact fnil | (refine' fcons ?mqfa ?mqfb; (case mqfa => k_ne); (case mqfb => walk_at "mine:all")))
  k_with "mine:cell" => (first
  | (refine' callP ?mqk1 ?mqk2 ?mqk3 ?mqk5 ?mqkA ?mqkF ?mqkK ?mqk6 ?mqk7 ?mqk8 ?mqk9 ?mqkB ?_ ?mqc2 ?mqc3 ?mqc4 ?mqc5; (case mqkA => exact rfl); (case mqkF => exact rfl); (case mqkK => assumption); (case mqk1 => k_asm); (case mqk2 => k_asm); (case mqk3 => k_asm); (case mqk5 => k_asm); (case mqk6 => k_is); (case mqk7 => k_is); (case mqk8 => ktr_room); (case mqk9 => first | exact BindsTo.of_eq rfl | exact binds_K (by k_in) rfl (by k_is) rfl rfl rfl); (case mqc5 => decide); (case mqkB => exact locs rfl); (case mqc2 => exact rfl); (case mqc3 => exact rfl); (case mqc4 => exact rfl); k_whole; intro _ _ _ _ _ _ _ _ _ _; walk_at "mine:let"; (try dsimp only); (try k_fold); (try walk_at "mine:env"))
  | (refine' callPC ?mqk1 ?mqk2 ?mqk3 ?mqk5 ?mqkA ?mqkF ?mqkK ?mqk6 ?mqk7 ?mqk8 ?mqk9 ?mqkB ?mqkD ?_ ?mqc2 ?mqc3 ?mqc4; (case mqkA => exact rfl); (case mqkF => exact rfl); (case mqkK => assumption); (case mqk1 => k_asm); (case mqk2 => k_asm); (case mqk3 => k_asm); (case mqk5 => k_asm); (case mqk6 => k_is); (case mqk7 => k_is); (case mqk8 => ktr_room); (case mqk9 => first | exact BindsTo.of_eq rfl | exact binds_K (by k_in) rfl (by k_is) rfl rfl rfl); (case mqkB => exact rfl); (case mqkD => decide +kernel); (case mqc2 => exact rfl); (case mqc3 => exact rfl); (case mqc4 => exact rfl); k_whole; intro _ _ _ _ _ _ _ _ N' Y' _ _ _; walk_at "mine:let"; k_cells Y'; (try simp only [List.cons_append, List.nil_append] at N'); (try (revert N'; intro _)); (try dsimp only); (try k_fold); (try walk_at "mine:env")))
  k_with "call type:bytes" => (k_here; (with_reducible show wpAny _ _ (call (Value.type "bytes") [Value.ref _]) _ _ _); k_dflt (refine' KBa.make_K ?mqkbaF ?mqkbaN ?mqkbah ?mqkbal ?mqkbai ?mqkbar ?mqkban ?_; (case mqkbaF => k_asm); (case mqkbaN => k_asm); (case mqkbah => rfl); (case mqkbal => exact News.isList (by k_asm) (by k_mem)); (case mqkbai => first | exact IntsAre.cons _ _ (IntsAre.cons _ _ (IntsAre.cons _ _ (IntsAre.cons _ _ IntsAre.nil))) | exact IntsAre.cons _ _ (IntsAre.cons _ _ IntsAre.nil) | exact IntsAre.cons _ _ IntsAre.nil); (case mqkbar => (repeat (first | exact fnil | refine fcons ⟨by omega, by omega⟩ ?_))); (case mqkban => exact Nat.le_of_ble_eq_true rfl); k_whole); intro _ _ _ _ _ _)
  k_with "call type:list" => (k_here; (with_reducible show wpAny _ _ (call (Value.type "list") [Value.bytes _ _]) _ _ _); first
  | (k_dflt (refine' list_bytes1 ?mqk1 ?mqk2 ?mqk3 ?mqk4 ?_; (case mqk1 => k_asm); (case mqk2 => k_asm); (case mqk3 => rfl); (case mqk4 => assumption)); intro _ _ _ _ _ _ _ l1; (try k_lt l1); (try (revert l1; intro _)))
  | (k_dflt (refine' list_bytes2 ?mqk1 ?mqk2 ?mqk3 ?mqk4 ?_; (case mqk1 => k_asm); (case mqk2 => k_asm); (case mqk3 => rfl); (case mqk4 => assumption)); intro _ _ _ _ _ _ _ _ l1; (try k_lt l1); (try (revert l1; intro _))))
  k_with "exec For Name BinOp cons nil" => (k_here; (with_unfolding_all refine' For_invVF ?mqkF ?mqk1 ?mqk2 ?_; (case mqkF => k_asm); (case mqk1 => exact rfl); (case mqk2 => exact rfl); k_whole))
  k_with "mine:env" => ((show (let AA := _; let EE := _; wpAny _ AA (execs _ EE) _ _ _)); intro AA EE)
  k_with "mine:let" => ((rename Fr _ _ _ _ => lF'); refine fr_let lF' ?_; clear lF'; intro _ _)
  k_with "storeName" => (k_here; k_dflt (refine' storeM ?mqF ?mqN ?_ ?mqhk ?mqhx; (case mqF => k_asm); (case mqN => k_asm); (case mqhk => exact rfl); (case mqhx => exact rfl); k_whole); intro _ _ _ _ _; (try k_sweep))
  k_with "mine:turn" => (walk_at "mine:let"; (show wpAny _ _ _ _ _ _); k_fold)
  k_with "mine:led" => (intro p hp; revert p; repeat (first | exact fnil | refine fcons rfl ?_))
  k_with "mine:same" => ((try dsimp (config := { zetaDelta := true }) only); ksw_same)
  k_with "mine:used" => (intro _ _ _ _ _ _ r9; (obtain ⟨_, e9⟩ := r9); subst e9; (try dsimp only); (try k_fold))
  k_with "mine:usedN" => (intro _ _ _ _ _ _ _ _ _ _; (try dsimp only); (try k_fold))
  k_with "mine:forG" => (k_dflt (refine' For_G ?mqkF ?_; (case mqkF => k_asm)))
  k_with "mine:forT" => (k_dflt (refine' For_T ?mqkF ?_; (case mqkF => k_asm)))
  k_with "call type:type" => (k_here; (with_reducible show wpAny _ _ (call _ [Value.bytes _ _]) _ _ _); refine call_type_of (Tx := "bytes") rfl (by decide +kernel) ?_)
  k_with "pyIter bytes" => ((with_reducible show wpAny _ _ (pyIter (Value.bytes _ _)) (fun it s₂ => LoopAtV _ _ _ _ _ _ _ _ _ it s₂) _ _); k_here; k_bytesUnr)
  k_with "subscriptTail" => (k_here; (with_reducible show wpAny _ _ (subscriptTail (Expr.Name "_B64" _) _ (Value.bytes _ _) (Value.int _ _)) _ _ _); with_unfolding_all refine' b64_item ?mqh0 ?mqh1 (fun _ _ _ _ => ?_) ?mqhs ?mqht; (case mqh0 => first | assumption | exact Nat.le_trans (by assumption) (by decide) | omega); (case mqh1 => first | assumption | exact Nat.le_trans (by assumption) (by decide) | omega); (case mqhs => with_unfolding_all rfl); (case mqht => intro _; with_unfolding_all rfl))
  k_with "binaryOp RShift int int" => (k_here; first
  | (refine' rsh2 ?mqhn ?_; (case mqhn => first | assumption | exact Nat.le_trans (by assumption) (by decide) | omega))
  | (refine' rsh4 ?mqhn ?_; (case mqhn => first | assumption | exact Nat.le_trans (by assumption) (by decide) | omega)))
  k_with "binaryOp LShift int int" => (k_here; first
  | (refine' lsh_ 8 256 ?mqhn ?mqhk ?mqhP ?mqh0 ?mqh1 ?_; (case mqhn => decide); (case mqhk => decide); (case mqhP => decide); (case mqh0 => first | assumption | exact Nat.le_trans (by assumption) (by decide) | omega); (case mqh1 => first | assumption | exact Nat.le_trans (by assumption) (by decide) | omega))
  | (refine' lsh_ 6 64 ?mqhn ?mqhk ?mqhP ?mqh0 ?mqh1 ?_; (case mqhn => decide); (case mqhk => decide); (case mqhP => decide); (case mqh0 => first | assumption | exact Nat.le_trans (by assumption) (by decide) | omega); (case mqh1 => first | assumption | exact Nat.le_trans (by assumption) (by decide) | omega))
  | (refine' lsh_ 4 16 ?mqhn ?mqhk ?mqhP ?mqh0 ?mqh1 ?_; (case mqhn => decide); (case mqhk => decide); (case mqhP => decide); (case mqh0 => first | assumption | exact Nat.le_trans (by assumption) (by decide) | omega); (case mqh1 => first | assumption | exact Nat.le_trans (by assumption) (by decide) | omega))
  | (refine' lsh_ 2 4 ?mqhn ?mqhk ?mqhP ?mqh0 ?mqh1 ?_; (case mqhn => decide); (case mqhk => decide); (case mqhP => decide); (case mqh0 => first | assumption | exact Nat.le_trans (by assumption) (by decide) | omega); (case mqh1 => first | assumption | exact Nat.le_trans (by assumption) (by decide) | omega)))
  k_with "binaryOp BitOr int int" => (k_here; first
  | (refine' or_ 8 256 ?mqhP ?mqh0 ?mqh1 ?mqh2 ?_; (case mqhP => decide); (case mqh0 => first | assumption | exact Nat.le_trans (by assumption) (by decide) | omega); (case mqh1 => first | assumption | exact Nat.le_trans (by assumption) (by decide) | omega); (case mqh2 => first | assumption | exact Nat.le_trans (by assumption) (by decide) | omega))
  | (refine' or_ 6 64 ?mqhP ?mqh0 ?mqh1 ?mqh2 ?_; (case mqhP => decide); (case mqh0 => first | assumption | exact Nat.le_trans (by assumption) (by decide) | omega); (case mqh1 => first | assumption | exact Nat.le_trans (by assumption) (by decide) | omega); (case mqh2 => first | assumption | exact Nat.le_trans (by assumption) (by decide) | omega))
  | (refine' or_ 4 16 ?mqhP ?mqh0 ?mqh1 ?mqh2 ?_; (case mqhP => decide); (case mqh0 => first | assumption | exact Nat.le_trans (by assumption) (by decide) | omega); (case mqh1 => first | assumption | exact Nat.le_trans (by assumption) (by decide) | omega); (case mqh2 => first | assumption | exact Nat.le_trans (by assumption) (by decide) | omega))
  | (refine' or_ 2 4 ?mqhP ?mqh0 ?mqh1 ?mqh2 ?_; (case mqhP => decide); (case mqh0 => first | assumption | exact Nat.le_trans (by assumption) (by decide) | omega); (case mqh1 => first | assumption | exact Nat.le_trans (by assumption) (by decide) | omega); (case mqh2 => first | assumption | exact Nat.le_trans (by assumption) (by decide) | omega)))
  k_with "binaryOp BitAnd int int" => (k_here; first
  | refine and65535 ?_
  | refine and63 ?_
  | refine and15 ?_
  | refine and3 ?_)
  k_with "getMethod bytes" => (k_here; (with_reducible refine method_translate ?_))
  k_with "call builtin:bytes.translate" => (k_here; first
  | (refine' call_urlenc ?mqh1 ?mqh2 (fun _ _ => ?_); (case mqh1 => assumption); (case mqh2 => first | kernel_rfl | decide +kernel))
  | (refine' call_urldec ?mqh1 ?mqh2 (fun _ _ => ?_); (case mqh1 => assumption); (case mqh2 => first | kernel_rfl | decide +kernel)))
  k_with "call type:str" => (k_here; (with_reducible show wpAny _ _ (call (Value.type "str") [Value.bytes _ _, Value.str _ _]) _ _ _); first
  | (refine' call_strword0 ?mqh1 (fun _ _ => ?_); (case mqh1 => assumption))
  | (refine' call_strword ?mqh1 (fun _ _ => ?_); (case mqh1 => assumption)))
  k_with "getMethod str" => (k_here; first | with_reducible refine m_encode ?_ | with_reducible refine m_translate ?_)
  k_with "call builtin:str.encode" => (k_here; refine' call_encword ?mqh1 (fun _ _ => ?_); (case mqh1 => assumption))
  k_with "binaryOp Add str str" => (k_here; refine' add_SS ?mqhx ?mqhy ?mqhsz (fun _ _ => ?_); (case mqhx => first | rfl | exact ofS _ | exact S_of _); (case mqhy => first | rfl | exact ofS _ | exact S_of _); (case mqhsz => ((try simp only [List.length_append, List.length_cons, List.length_nil, List.length_replicate]); omega)))
  k_with "binaryOp Mult str int" => (k_here; refine' mul_S ?mqhx ?mqh0 ?mqh1 (fun _ _ => ?_); (case mqhx => exact ofS _); (case mqh0 => first | assumption | exact Nat.le_trans (by assumption) (by decide) | omega); (case mqh1 => first | assumption | exact Nat.le_trans (by assumption) (by decide) | omega))
  k_with "subscriptTail" => (k_here; (with_reducible show wpAny _ _ (subscriptTail _ _ (Value.str _ _) (Value.int _ _)) _ _ _); with_unfolding_all refine' item_S ?mqhx ?mqh0 ?mqh1 ?mqh2 (fun _ _ => ?_) ?mqhs ?mqht; (case mqhx => first | rfl | exact ofS _ | exact S_of _); (case mqh0 => ktr_rel); (case mqh1 => ktr_rel); (case mqh2 => ktr_rel); (case mqhs => with_unfolding_all rfl); (case mqht => intro _; with_unfolding_all rfl))
  k_with "eval Constant int" => (with_reducible refine const_i ?_)
  k_with "binaryOp Add int int" => (with_reducible refine add_i ?_)
  k_with "binaryOp Sub int int" => (with_reducible refine sub_i ?_)
  trivial
set_option maxHeartbeats 8000000
section
variable {prog : Program} {w : World} {A : Around} {E : Value → Shared → Prop} {s : Shared} {k : Int} {t u : Tok} {Q : Value → Shared → Prop}
theorem fdivk {a : Int} (h0 : 0 ≤ k) (h1 : k ≤ 1) (h : ∀ t' k', Q (.int (a.fdiv (3 * k + 1)) t') { s with toks := k' }) : wpAny (model prog w) A (binaryOp .FloorDiv (.int a t) (.int (3 * k + 1) u)) Q E s := by
  have : k = 0 ∨ k = 1 := by omega
  rcases this with rfl | rfl
  · exact floordiv_int (by decide) (h _ _) (.inl (PyProof.noPylong_small (by decide)))
  · exact floordiv_int (by decide) (h _ _) (.inl (PyProof.noPylong_small (by decide)))
theorem pow4 (h0 : 0 ≤ k) (h1 : k ≤ 1) (h : ∀ t' k', Q (.int (3 * k + 1) t') { s with toks := k' }) : wpAny (model prog w) A (binaryOp .Pow (.int 4 t) (.int k u)) Q E s := by
  refine pow_int_small h0 (by omega) (by decide) ?_
  have e : (4 : Int) ^ k.toNat = 3 * k + 1 := by
    have : k = 0 ∨ k = 1 := by omega
    rcases this with rfl | rfl <;> rfl
  rw [e]; exact h _ _
end
theorem kw_Jx7 : True := by
  k_with "binaryOp Pow int int" => (k_here; refine' pow4 ?mqh0 ?mqh1 (fun _ _ => ?_); (case mqh0 => first | assumption | exact Nat.le_trans (by assumption) (by decide) | omega); (case mqh1 => first | ((try k_fmods); refine' oct_k ?mqoa ?mqob ?mqoc; (case mqoc => assumption); (case mqoa => assumption); (case mqob => assumption)) | ((try k_fmods); omega)))
  trivial
theorem oct_lo {v J : Int} (h : 0 ≤ J) : 0 ≤ (if v = 0 then 0 else if v = 1 then 62 else if v = 2 then 251 else if v = 3 then 255 else J) := by
  split
  · decide
  split
  · decide
  split
  · decide
  split
  · decide
  · exact h
theorem oct_hi {x v J : Int} (h : J < 0 + (((1 + x.fmod 2 - 0).toNat : Nat) : Int)) : (if v = 0 then 0 else if v = 1 then 62 else if v = 2 then 251 else if v = 3 then 255 else J) < 256 := by
  split
  · decide
  split
  · decide
  split
  · decide
  split
  · decide
  · exact Int.lt_of_le_of_lt (oct_k (by rw [Int.fmod_eq_emod_of_nonneg _ (by decide)]; exact Int.emod_nonneg _ (by decide)) (Int.fmod_lt_of_pos x (by decide)) h) (by decide)
local macro_rules | `(tactic| kbe_bound) => `(tactic| ((rename _ ∧ _ => q); first | exact oct_lo q.1 | exact oct_hi q.2))
theorem kw_Jx8 : True := by
  k_with "binaryOp FloorDiv int int" => (k_here; (with_reducible refine' fdivk ?mqh0 ?mqh1 (fun _ _ => ?_)); (case mqh0 => first | assumption | exact Nat.le_trans (by assumption) (by decide) | omega); (case mqh1 => first | ((try k_fmods); refine' oct_k ?mqoa ?mqob ?mqoc; (case mqoc => assumption); (case mqoa => assumption); (case mqob => assumption)) | ((try k_fmods); omega)))
  trivial
theorem c_octets (w : World) (x : Int) (t : Tok) :
   Spec w 5 183 [.int x t] [] (fun _ => True) (fun _ _ v => ∃ t, v = .bytes (byteArr (rowL x)) t) := by
  unfold Spec
  k_fill
  intros; rename_i hret
  refine wpAny_call ?_
  k_dflt cell_enter
  rename _ = Shared.heap _ => hgg
  k_steps
  exact hret _ _ _ (by rw [← hgg]; assumption) ⟨_, by rw [rowL_eq]⟩
end
section
theorem kz_Six : True := by
  k_with_none
  k_with "mine:room" => (first | exact Room.lt (by assumption) | exact Room.lt (Room.deep (k := 1) (e := 0) (by assumption) (by decide)) | exact Room.lt (Room.deep (k := 1) (e := 0) (Room.deep (k := 1) (e := 1) (by assumption) (by decide)) (by decide)) | exact Room.deep (by assumption) (by decide) | ((with_reducible show Room _ _); unfold Room; decide) | ((with_reducible show Room _ _); unfold Room; simp only [depth_under_make, depth_under_kw, depth_in1, depth_deeper, depth_caller]; decide))
  k_with "mine:units" => (first | exact Units.deep (by assumption) (by decide) | exact Units.deep2 (by assumption) (by decide) | ((with_reducible show Units _ _); unfold Units; ktr_units))
  k_with "mine:all1" => (first | exact fnil | (refine fcons (by with_unfolding_all rfl) ?_; walk_at "mine:all1"))
  k_with "mine:allin" => (first | exact fnil | (refine fcons (by k_memK) ?_; walk_at "mine:allin") | (intro p9 h9; kst_mem))
  k_with "mine:all" => (first | exact fnil | (refine' fcons ?mqfa ?mqfb; (case mqfa => k_ne); (case mqfb => walk_at "mine:all")))
  k_with "mine:cell" => (first
  | (refine' callP ?mqk1 ?mqk2 ?mqk3 ?mqk5 ?mqkA ?mqkF ?mqkK ?mqk6 ?mqk7 ?mqk8 ?mqk9 ?mqkB ?_ ?mqc2 ?mqc3 ?mqc4 ?mqc5; (case mqkA => exact rfl); (case mqkF => exact rfl); (case mqkK => assumption); (case mqk1 => k_asm); (case mqk2 => k_asm); (case mqk3 => k_asm); (case mqk5 => k_asm); (case mqk6 => k_is); (case mqk7 => k_is); (case mqk8 => ktr_room); (case mqk9 => first | exact BindsTo.of_eq rfl | exact binds_K (by k_in) rfl (by k_is) rfl rfl rfl); (case mqc5 => decide); (case mqkB => exact locs rfl); (case mqc2 => exact rfl); (case mqc3 => exact rfl); (case mqc4 => exact rfl); k_whole; intro _ _ _ _ _ _ _ _ _ _; walk_at "mine:let"; (try dsimp only); (try k_fold); (try walk_at "mine:env"))
  | (refine' callPC ?mqk1 ?mqk2 ?mqk3 ?mqk5 ?mqkA ?mqkF ?mqkK ?mqk6 ?mqk7 ?mqk8 ?mqk9 ?mqkB ?mqkD ?_ ?mqc2 ?mqc3 ?mqc4; (case mqkA => exact rfl); (case mqkF => exact rfl); (case mqkK => assumption); (case mqk1 => k_asm); (case mqk2 => k_asm); (case mqk3 => k_asm); (case mqk5 => k_asm); (case mqk6 => k_is); (case mqk7 => k_is); (case mqk8 => ktr_room); (case mqk9 => first | exact BindsTo.of_eq rfl | exact binds_K (by k_in) rfl (by k_is) rfl rfl rfl); (case mqkB => exact rfl); (case mqkD => decide +kernel); (case mqc2 => exact rfl); (case mqc3 => exact rfl); (case mqc4 => exact rfl); k_whole; intro _ _ _ _ _ _ _ _ N' Y' _ _ _; walk_at "mine:let"; k_cells Y'; (try simp only [List.cons_append, List.nil_append] at N'); (try (revert N'; intro _)); (try dsimp only); (try k_fold); (try walk_at "mine:env")))
  k_with "call type:bytes" => (k_here; (with_reducible show wpAny _ _ (call (Value.type "bytes") [Value.ref _]) _ _ _); k_dflt (refine' KBa.make_K ?mqkbaF ?mqkbaN ?mqkbah ?mqkbal ?mqkbai ?mqkbar ?mqkban ?_; (case mqkbaF => k_asm); (case mqkbaN => k_asm); (case mqkbah => rfl); (case mqkbal => exact News.isList (by k_asm) (by k_mem)); (case mqkbai => first | exact IntsAre.cons _ _ (IntsAre.cons _ _ (IntsAre.cons _ _ (IntsAre.cons _ _ IntsAre.nil))) | exact IntsAre.cons _ _ (IntsAre.cons _ _ IntsAre.nil) | exact IntsAre.cons _ _ IntsAre.nil); (case mqkbar => (repeat (first | exact fnil | refine fcons ⟨by omega, by omega⟩ ?_))); (case mqkban => exact Nat.le_of_ble_eq_true rfl); k_whole); intro _ _ _ _ _ _)
  k_with "call type:list" => (k_here; (with_reducible show wpAny _ _ (call (Value.type "list") [Value.bytes _ _]) _ _ _); first
  | (k_dflt (refine' list_bytes1 ?mqk1 ?mqk2 ?mqk3 ?mqk4 ?_; (case mqk1 => k_asm); (case mqk2 => k_asm); (case mqk3 => rfl); (case mqk4 => assumption)); intro _ _ _ _ _ _ _ l1; (try k_lt l1); (try (revert l1; intro _)))
  | (k_dflt (refine' list_bytes2 ?mqk1 ?mqk2 ?mqk3 ?mqk4 ?_; (case mqk1 => k_asm); (case mqk2 => k_asm); (case mqk3 => rfl); (case mqk4 => assumption)); intro _ _ _ _ _ _ _ _ l1; (try k_lt l1); (try (revert l1; intro _))))
  k_with "exec For Name BinOp cons nil" => (k_here; (with_unfolding_all refine' For_invVF ?mqkF ?mqk1 ?mqk2 ?_; (case mqkF => k_asm); (case mqk1 => exact rfl); (case mqk2 => exact rfl); k_whole))
  k_with "mine:env" => ((show (let AA := _; let EE := _; wpAny _ AA (execs _ EE) _ _ _)); intro AA EE)
  k_with "mine:let" => ((rename Fr _ _ _ _ => lF'); refine fr_let lF' ?_; clear lF'; intro _ _)
  k_with "storeName" => (k_here; k_dflt (refine' storeM ?mqF ?mqN ?_ ?mqhk ?mqhx; (case mqF => k_asm); (case mqN => k_asm); (case mqhk => exact rfl); (case mqhx => exact rfl); k_whole); intro _ _ _ _ _; (try k_sweep))
  k_with "mine:turn" => (walk_at "mine:let"; (show wpAny _ _ _ _ _ _); k_fold)
  k_with "mine:led" => (intro p hp; revert p; repeat (first | exact fnil | refine fcons rfl ?_))
  k_with "mine:same" => ((try dsimp (config := { zetaDelta := true }) only); ksw_same)
  k_with "mine:used" => (intro _ _ _ _ _ _ r9; (obtain ⟨_, e9⟩ := r9); subst e9; (try dsimp only); (try k_fold))
  k_with "mine:usedN" => (intro _ _ _ _ _ _ _ _ _ _; (try dsimp only); (try k_fold))
  k_with "mine:forG" => (k_dflt (refine' For_G ?mqkF ?_; (case mqkF => k_asm)))
  k_with "mine:forT" => (k_dflt (refine' For_T ?mqkF ?_; (case mqkF => k_asm)))
  k_with "call type:type" => (k_here; (with_reducible show wpAny _ _ (call _ [Value.bytes _ _]) _ _ _); refine call_type_of (Tx := "bytes") rfl (by decide +kernel) ?_)
  k_with "pyIter bytes" => ((with_reducible show wpAny _ _ (pyIter (Value.bytes _ _)) (fun it s₂ => LoopAtV _ _ _ _ _ _ _ _ _ it s₂) _ _); k_here; k_bytesUnr)
  k_with "subscriptTail" => (k_here; (with_reducible show wpAny _ _ (subscriptTail (Expr.Name "_B64" _) _ (Value.bytes _ _) (Value.int _ _)) _ _ _); with_unfolding_all refine' b64_item ?mqh0 ?mqh1 (fun _ _ _ _ => ?_) ?mqhs ?mqht; (case mqh0 => first | assumption | exact Nat.le_trans (by assumption) (by decide) | omega); (case mqh1 => first | assumption | exact Nat.le_trans (by assumption) (by decide) | omega); (case mqhs => with_unfolding_all rfl); (case mqht => intro _; with_unfolding_all rfl))
  k_with "binaryOp RShift int int" => (k_here; first
  | (refine' rsh2 ?mqhn ?_; (case mqhn => first | assumption | exact Nat.le_trans (by assumption) (by decide) | omega))
  | (refine' rsh4 ?mqhn ?_; (case mqhn => first | assumption | exact Nat.le_trans (by assumption) (by decide) | omega)))
  k_with "binaryOp LShift int int" => (k_here; first
  | (refine' lsh_ 8 256 ?mqhn ?mqhk ?mqhP ?mqh0 ?mqh1 ?_; (case mqhn => decide); (case mqhk => decide); (case mqhP => decide); (case mqh0 => first | assumption | exact Nat.le_trans (by assumption) (by decide) | omega); (case mqh1 => first | assumption | exact Nat.le_trans (by assumption) (by decide) | omega))
  | (refine' lsh_ 6 64 ?mqhn ?mqhk ?mqhP ?mqh0 ?mqh1 ?_; (case mqhn => decide); (case mqhk => decide); (case mqhP => decide); (case mqh0 => first | assumption | exact Nat.le_trans (by assumption) (by decide) | omega); (case mqh1 => first | assumption | exact Nat.le_trans (by assumption) (by decide) | omega))
  | (refine' lsh_ 4 16 ?mqhn ?mqhk ?mqhP ?mqh0 ?mqh1 ?_; (case mqhn => decide); (case mqhk => decide); (case mqhP => decide); (case mqh0 => first | assumption | exact Nat.le_trans (by assumption) (by decide) | omega); (case mqh1 => first | assumption | exact Nat.le_trans (by assumption) (by decide) | omega))
  | (refine' lsh_ 2 4 ?mqhn ?mqhk ?mqhP ?mqh0 ?mqh1 ?_; (case mqhn => decide); (case mqhk => decide); (case mqhP => decide); (case mqh0 => first | assumption | exact Nat.le_trans (by assumption) (by decide) | omega); (case mqh1 => first | assumption | exact Nat.le_trans (by assumption) (by decide) | omega)))
  k_with "binaryOp BitOr int int" => (k_here; first
  | (refine' or_ 8 256 ?mqhP ?mqh0 ?mqh1 ?mqh2 ?_; (case mqhP => decide); (case mqh0 => first | assumption | exact Nat.le_trans (by assumption) (by decide) | omega); (case mqh1 => first | assumption | exact Nat.le_trans (by assumption) (by decide) | omega); (case mqh2 => first | assumption | exact Nat.le_trans (by assumption) (by decide) | omega))
  | (refine' or_ 6 64 ?mqhP ?mqh0 ?mqh1 ?mqh2 ?_; (case mqhP => decide); (case mqh0 => first | assumption | exact Nat.le_trans (by assumption) (by decide) | omega); (case mqh1 => first | assumption | exact Nat.le_trans (by assumption) (by decide) | omega); (case mqh2 => first | assumption | exact Nat.le_trans (by assumption) (by decide) | omega))
  | (refine' or_ 4 16 ?mqhP ?mqh0 ?mqh1 ?mqh2 ?_; (case mqhP => decide); (case mqh0 => first | assumption | exact Nat.le_trans (by assumption) (by decide) | omega); (case mqh1 => first | assumption | exact Nat.le_trans (by assumption) (by decide) | omega); (case mqh2 => first | assumption | exact Nat.le_trans (by assumption) (by decide) | omega))
  | (refine' or_ 2 4 ?mqhP ?mqh0 ?mqh1 ?mqh2 ?_; (case mqhP => decide); (case mqh0 => first | assumption | exact Nat.le_trans (by assumption) (by decide) | omega); (case mqh1 => first | assumption | exact Nat.le_trans (by assumption) (by decide) | omega); (case mqh2 => first | assumption | exact Nat.le_trans (by assumption) (by decide) | omega)))
  k_with "binaryOp BitAnd int int" => (k_here; first
  | refine and65535 ?_
  | refine and63 ?_
  | refine and15 ?_
  | refine and3 ?_)
  k_with "getMethod bytes" => (k_here; (with_reducible refine method_translate ?_))
  k_with "call builtin:bytes.translate" => (k_here; first
  | (refine' call_urlenc ?mqh1 ?mqh2 (fun _ _ => ?_); (case mqh1 => assumption); (case mqh2 => first | kernel_rfl | decide +kernel))
  | (refine' call_urldec ?mqh1 ?mqh2 (fun _ _ => ?_); (case mqh1 => assumption); (case mqh2 => first | kernel_rfl | decide +kernel)))
  k_with "call type:str" => (k_here; (with_reducible show wpAny _ _ (call (Value.type "str") [Value.bytes _ _, Value.str _ _]) _ _ _); first
  | (refine' call_strword0 ?mqh1 (fun _ _ => ?_); (case mqh1 => assumption))
  | (refine' call_strword ?mqh1 (fun _ _ => ?_); (case mqh1 => assumption)))
  k_with "getMethod str" => (k_here; first | with_reducible refine m_encode ?_ | with_reducible refine m_translate ?_)
  k_with "call builtin:str.encode" => (k_here; refine' call_encword ?mqh1 (fun _ _ => ?_); (case mqh1 => assumption))
  k_with "binaryOp Add str str" => (k_here; refine' add_SS ?mqhx ?mqhy ?mqhsz (fun _ _ => ?_); (case mqhx => first | rfl | exact ofS _ | exact S_of _); (case mqhy => first | rfl | exact ofS _ | exact S_of _); (case mqhsz => ((try simp only [List.length_append, List.length_cons, List.length_nil, List.length_replicate]); omega)))
  k_with "binaryOp Mult str int" => (k_here; refine' mul_S ?mqhx ?mqh0 ?mqh1 (fun _ _ => ?_); (case mqhx => exact ofS _); (case mqh0 => first | assumption | exact Nat.le_trans (by assumption) (by decide) | omega); (case mqh1 => first | assumption | exact Nat.le_trans (by assumption) (by decide) | omega))
  k_with "subscriptTail" => (k_here; (with_reducible show wpAny _ _ (subscriptTail _ _ (Value.str _ _) (Value.int _ _)) _ _ _); with_unfolding_all refine' item_S ?mqhx ?mqh0 ?mqh1 ?mqh2 (fun _ _ => ?_) ?mqhs ?mqht; (case mqhx => first | rfl | exact ofS _ | exact S_of _); (case mqh0 => ktr_rel); (case mqh1 => ktr_rel); (case mqh2 => ktr_rel); (case mqhs => with_unfolding_all rfl); (case mqht => intro _; with_unfolding_all rfl))
  k_with "eval Constant int" => (with_reducible refine const_i ?_)
  k_with "binaryOp Add int int" => (with_reducible refine add_i ?_)
  k_with "binaryOp Sub int int" => (with_reducible refine sub_i ?_)
  trivial
section
variable {prog : Program} {w : World} {A : Around} {E : Value → Shared → Prop} {s : Shared} {h₀ : Heap} {L : Addr} {m : Str → Option Value} {news : List (Addr × Obj)} {Q : Value → Shared → Prop} {b : Array UInt8} {t u : Tok}
theorem list_bytesI {l : List Int} (F : Fr h₀ L s.heap m) (N : News h₀ L s.heap news) (hh : A.handled = none) (hb : KBw.bInts b = l) (hl : l.length ≤ 1000)
    (h : ∀ D c h' tk vs, IntsAre vs l → Fr h₀ L h' m → News h₀ L h' ((D, W.listOf vs.toArray c) :: news) → (∀ q ∈ news, q.1 < D) → Q (.ref D) { s with heap := h', toks := tk }) :
    wpAny (model prog w) A (call (.type "list") [.bytes b t]) Q E s := by
  have hs : b.size = l.length := by rw [← KBw.ints_length, hb]
  refine list_bytesK F N hh (fun D c h' tk acc hacc F' N' l1 => ?_) (by omega)
  obtain ⟨h1, h2⟩ := hacc
  obtain ⟨vs⟩ := acc
  refine h D c h' tk vs (ints_at (by rw [← hs]; exact h1) fun i y hy => ?_) F' N' l1
  obtain ⟨c0, u, hc, rfl⟩ := h2 i y (by simpa using hy)
  have := KBw.ints_get hc
  rw [hb] at this
  exact ⟨_, u, this, rfl⟩
theorem rep_ints {t : Tok} : ∀ n : Nat, IntsAre ((List.replicate n [Value.int 0 t]).flatten) (List.replicate n 0)
  | 0 => .nil
  | n + 1 => by rw [List.replicate_succ, List.replicate_succ]; exact .cons _ t (rep_ints n)
theorem mul_IL {a : Addr} {n : Int} (F : Fr h₀ L s.heap m) (N : News h₀ L s.heap news) (ha : s.heap.IsList a [Value.int 0 t].toArray) (h0 : 0 ≤ n) (h1 : n ≤ 100)
    (h : ∀ D us h', IntsAre us (List.replicate n.toNat 0) → Fr h₀ L h' m → News h₀ L h' ((D, W.listOf us.toArray 0) :: news) → (∀ p ∈ news, p.1 < D) → Q (.ref D) { s with heap := h' }) : wpAny (model prog w) A (binaryOp .Mult (.ref a) (.int n u)) Q E s :=
  KMa.mul F N ha (by omega) (by omega) (by simp; omega) rfl fun D h' F' N' l1 => h D _ h' (rep_ints _) F' N' l1
theorem add_IL {a c : Addr} {vs ws : List Value} {l k : List Int} (F : Fr h₀ L s.heap m) (N : News h₀ L s.heap news) (ha : s.heap.IsList a vs.toArray) (hb : s.heap.IsList c ws.toArray) (hi : IntsAre vs l) (hj : IntsAre ws k) (hz : l.length + k.length ≤ 100000)
    (h : ∀ D us h', IntsAre us (l ++ k) → Fr h₀ L h' m → News h₀ L h' ((D, W.listOf us.toArray 0) :: news) → (∀ p ∈ news, p.1 < D) → Q (.ref D) { s with heap := h' }) : wpAny (model prog w) A (binaryOp .Add (.ref a) (.ref c)) Q E s := by
  refine add_lists F N ha hb (fun h' F' N' => ?_) (by rw [hi.length, hj.length, sizeLine_eq]; omega)
  exact h _ _ h' (ints_app hi hj) F' N' fun p hp => Heap.lt_size (N p hp).1
theorem pow64 {k : Int} (h0 : 0 ≤ k) (h1 : k ≤ 10) (h : ∀ t' k', Q (.int (64 ^ k.toNat) t') { s with toks := k' }) : wpAny (model prog w) A (binaryOp .Pow (.int 64 t) (.int k u)) Q E s := by
  refine pow_int_small h0 (by omega) (by decide) ?_
  exact h _ _
theorem fdiv64 {a : Int} {n : Nat} (hn : n ≤ 3) (h : ∀ t' k', Q (.int (a.fdiv (64 ^ n)) t') { s with toks := k' }) : wpAny (model prog w) A (binaryOp .FloorDiv (.int a t) (.int (64 ^ n) u)) Q E s := by
  have hb : ((64 : Int) ^ n).natAbs < 1073741824 := by
    have : n = 0 ∨ n = 1 ∨ n = 2 ∨ n = 3 := by omega
    rcases this with rfl | rfl | rfl | rfl <;> decide
  exact floordiv_int (Int.ne_of_gt (Int.pow_pos (by decide))) (h _ _) (.inl (PyProof.noPylong_small hb))
theorem s61 : PySem.Str.ofString "=" = S [61] := by decide +kernel
end
theorem kw_Jx9 : True := by
  k_with "binaryOp FloorDiv int int" => (k_here; refine fdiv64 (by first | assumption | omega) (fun _ _ => ?_))
  trivial
theorem kw_Jx10 : True := by
  k_with "binaryOp Mult str int" => (k_here; refine mul_S (c := 61) s61 (by first | assumption | omega) (by first | assumption | omega) (fun _ _ => ?_))
  trivial
theorem kw_Jx11 : True := by
  k_with "binaryOp Pow int int" => (k_here; refine pow64 (by first | assumption | omega) (by first | assumption | omega) (fun _ _ => ?_))
  trivial
theorem kw_Jx12 : True := by
  k_with "call type:list" => (k_here; (with_reducible show wpAny _ _ (call (Value.type "list") [Value.bytes _ _]) _ _ _); k_dflt (refine list_bytesI (by k_asm) (by k_asm) (by rfl) (by assumption) (by first | assumption | omega) ?_); intro _ _ _ _ _ _ _ _ l1; (try k_lt l1); (try (revert l1; intro _)))
  trivial
theorem kw_Jx13 : True := by
  k_with "binaryOp Mult ref int" => (k_here; k_dflt (refine mul_IL (by k_asm) (by k_asm) (by kmk_list) (by first | assumption | omega) (by first | assumption | omega) ?_); intro _ _ _ _ _ _ l1; (try k_lt l1); (try (revert l1; intro _)))
  trivial
theorem kw_Jx14 : True := by
  k_with "binaryOp Add ref ref" => (k_here; k_dflt (refine add_IL (by k_asm) (by k_asm) (by kmk_list) (by kmk_list) (by assumption) (by assumption) (by simp only [List.length_replicate]; omega) ?_); intro _ _ _ _ _ _ l1; (try k_lt l1); (try (revert l1; intro _)))
  trivial
theorem kw_Jx15 : True := by
  k_with "eval ListComp" => (k_here; k_dflt (refine ListComp_G (_F₀ := by k_asm) (by with_unfolding_all rfl) (by decide) (by rfl) (by decide) (by rfl) ?_))
  trivial
theorem kw_Jx16 : True := by
  k_with "exec For Name BinOp cons nil" => (k_here; walk_at "mine:forG")
  trivial
theorem kw_Jx17 : True := by
  k_with "pyIter ref" => (k_here; refine halt ?_)
  trivial
theorem kw_Jx18 : True := by
  k_with "call builtin:str.join" => (k_here; k_dflt (refine' join_S ?mqhx ?mqhl ?mqhi ?mqhs (fun _ _ => ?_); (case mqhx => rfl); (case mqhl => exact News.isList (by k_asm) (by k_mem)); (case mqhi => assumption); (case mqhs => assumption)))
  trivial
local macro_rules | `(tactic| ktr_rel) => `(tactic| first | assumption | omega | ((try k_fmods); (try simp only [List.length_append, List.length_cons, List.length_nil]); omega))
noncomputable def two (p : Bool) : List Nat := if p then [45, 95] else [43, 47]
noncomputable def numOf (l : List Int) : Int := l.foldl (fun n x => n * 256 + x) 0
noncomputable def sixX (l : List Int) : List Int := l ++ List.replicate (3 - l.length) 0
noncomputable def sixT (l : List Int) (p : Bool) : List (List Nat) := (List.range (l.length + 1)).map fun i => [(lit "ABCDEFGHIJKLMNOPQRSTUVWXYZabcdefghijklmnopqrstuvwxyz0123456789" ++ two p).getD (((numOf (sixX l)).fdiv (64 ^ (3 - i))).fmod 64).toNat 0]
theorem sixT_len (l : List Int) (p : Bool) : (sixT l p).length = l.length + 1 := by simp [sixT]
theorem sixT_get {l : List Int} {p : Bool} {i : Nat} (h : i < l.length + 1) : (sixT l p)[i]? = some [(lit "ABCDEFGHIJKLMNOPQRSTUVWXYZabcdefghijklmnopqrstuvwxyz0123456789" ++ two p).getD (((numOf (sixX l)).fdiv (64 ^ (3 - i))).fmod 64).toNat 0] := by
  unfold sixT
  rw [List.getElem?_map, List.getElem?_range h]; rfl
theorem sum_ones : ∀ n : Nat, (List.replicate n 1).sum = n
  | 0 => rfl
  | n + 1 => by rw [List.replicate_succ, List.sum_cons, sum_ones n]; omega
theorem sixT_sum (l : List Int) (p : Bool) : ((sixT l p).map List.length).sum = l.length + 1 := by
  have h : (sixT l p).map List.length = List.replicate (l.length + 1) 1 := by
    rw [List.eq_replicate_iff]; simp [sixT]
  rw [h, sum_ones]
theorem six_eq : ∀ l ∈ rowTab, ∀ p : Bool, S ((sixT l p).flatten ++ List.replicate (3 - l.length) 61) = wordS l p := by decide +kernel
theorem numOf_step {X : List Int} {i : Nat} (h : i < X.length) : numOf (X.take i) * 256 + X.getD i 0 = numOf (X.take (i + 1)) := by
  rw [List.take_succ_eq_append_getElem h, numOf, numOf, List.foldl_append]
  simp [List.getD, List.getElem?_eq_getElem h]
theorem six_a {n : Nat} (h : n = 1 ∨ n = 2) : n + ((3 : Int) - (n : Int)).toNat = 3 := by rcases h with rfl | rfl <;> rfl
theorem six_0 {n : Nat} {z : Int} (h : n = 1 ∨ n = 2) (e : z = 3 - (n : Int)) : 0 ≤ z ∧ z ≤ 100 := by subst e; rcases h with rfl | rfl <;> decide
theorem six_i {n i : Nat} {z : Int} (h : n = 1 ∨ n = 2) (e : z = 4) (hi : i < n + 1) : 0 ≤ z - 1 - (i : Int) ∧ z - 1 - (i : Int) ≤ 10 ∧ (z - 1 - (i : Int)).toNat ≤ 3 := by
  subst e
  have : i = 0 ∨ i = 1 ∨ i = 2 := by omega
  rcases this with rfl | rfl | rfl <;> decide
theorem six_f {x z : Int} {c d : Nat} (h0 : 0 ≤ x.fmod 64) (h1 : x.fmod 64 < 64) (hc : c = 62) (hd : d = 2) : x.fmod 64 < ((c + d : Nat) : Int) := by subst hc hd; exact h1
theorem c_six (w : World) (l : List Int) (hl : l ∈ rowTab) (p : Bool) (t u : Tok) :
    Spec w 6 195 [.bytes (byteArr l) t, .str (S (two p)) u] [] (fun _ => True) (fun _ _ v => ∃ t, v = .str (wordS l p) t) := by
  have hi := row_ints l hl
  have l1 : (lit "ABCDEFGHIJKLMNOPQRSTUVWXYZabcdefghijklmnopqrstuvwxyz0123456789").length = 62 := by decide +kernel
  have l2 : (two p).length = 2 := by cases p <;> rfl
  have hlen : l.length = 1 ∨ l.length = 2 := by rcases row_cases hl with ⟨_, _, rfl⟩ | ⟨_, _, _, _, rfl⟩ <;> simp
  have hsz : (-((l.length : Nat) : Int)).fmod 3 = 3 - (l.length : Int) := by rcases hlen with h | h <;> rw [h] <;> rfl
  obtain ⟨hs0, hs1⟩ := six_0 hlen hsz
  have hmany : (((l.length : Nat) : Int) + (3 - (l.length : Int))).fdiv 3 * 4 = 4 := by rcases hlen with h | h <;> rw [h] <;> rfl
  have hmany' : (((l.length : Nat) : Int) + (-((l.length : Nat) : Int)).fmod 3).fdiv 3 * 4 = 4 := by rw [hsz]; exact hmany
  unfold Spec
  k_fill
  intros; rename_i hret
  refine wpAny_call ?_
  k_dflt cell_enter
  rename _ = Shared.heap _ => hgg
  rename_i g0 L0 h00 tk0 FG0 B0 X0 T0 m00 F00 o0 o20 d10 d20 N0
  k_steps
  rename_i oL dL a1 a2 a3 a4 a5 oN dN a6 b1 b2 D1 c1 a7 a8 vs1 hvs a9 l1' a10 a11 a12 a13 D2 us2 a14 hus2 a15 a16 a17 D us hh hus F N lt
  generalize hX : l ++ List.replicate (Int.toNat ((-(l.length : Int)).fmod 3)) 0 = X at hus
  refine fr_gen F fun m1 hm1 F => ?_
  refine for_list (σ := Tok × Obj × Tok) (fun _ c => [(L0 + 1 + 1, c.2.1), (L0 + 1, oL), (D, W.listOf us.toArray 0)]) (fun _ c => [(Str.ofString "octets", .bytes (byteArr l) t), (Str.ofString "size", .int ((-((l.length : Nat) : Int)).fmod 3) c.2.2)]) (fun i c => c.2.1.data = .cell (some (.int (numOf (X.take i)) c.1))) [Str.ofString "octet"] (_, oN, _)
    (by rfl) (by rfl) (by rfl) F (kst_newsOf N (by kst_inAny)) (fun i c _ => .inr ⟨_, by k_mem, rfl, _, rfl⟩) (fun p hp => (hm1 _).trans (by revert p; repeat (first | exact fnil | refine fcons rfl ?_))) dN ?_ ?_ ?_
  · exact (N (D, W.listOf us.toArray 0) (by k_mem)).2.1
  · intro g i c u v I oI h tk E' hi hinv hv F N off
    have hv' : us[i]? = some v := by simpa using hv
    obtain ⟨t1, rfl⟩ := IntsAre.int_at hus i v hv'
    have hnum : numOf (X.take i) * 256 + X.getD i 0 = numOf (X.take (i + 1)) := numOf_step (by rw [← hus.length]; simpa using hi)
    dsimp only [kstB, List.cons_append, List.nil_append] at F N ⊢
    have z1 : @Ne Nat (L0 + 1 + 1) I := off (L0 + 1 + 1, c.2.1) (.head _)
    show wpAny _ _ _ _ _ _
    k_fold
    k_steps
    rename_i h3 o3 F3 N3 d3
    rw [hnum] at d3
    refine for_end (c := (_, o3, _)) F3 N3 (by k_mem) (by kst_in) ?_ (by kst_all) (by ksw_same) d3
    intro p hp
    rcases List.mem_cons.mp hp with rfl | hp
    · exact off (L0 + 1 + 1, c.2.1) (.head _)
    · exact off p (.tail _ hp)
  · intro g c u h tk hinv F N
    dsimp only [kstB] at F N ⊢
    show wpAny _ _ _ _ _ _
    k_steps
    have hXl : X.length = 3 := by rw [← hX, hsz, List.length_append, List.length_replicate]; exact six_a hlen
    have hXe : X = sixX l := by rw [← hX, hsz]; unfold sixX; congr 2; exact tsub3 _
    rw [List.take_of_length_le (by rw [List.size_toArray, hus.length]; exact Nat.le_refl _)] at hinv
    k_dflt (refine src_down (n := l.length + 1) (by rfl) (by k_asm) (by k_asm) (by assumption) ?_ ?_ ?_ ?_)
    · rw [hmany', hsz]; rcases hlen with h | h <;> rw [h] <;> rfl
    · rw [hmany', hsz]; rcases hlen with h | h <;> rw [h] <;> rfl
    · rw [sizeLine_eq]; rcases hlen with h | h <;> rw [h] <;> decide
    intro g
    refine rest_inv (V := StrAt (sixT l p)) ?_ ?_
    · intro i v ys I oI C oC D m₂ h tk E' hi hv hC hx F N off ne
      obtain ⟨t, rfl⟩ := hv
      dsimp only at F N ⊢
      have e64 : (((l.length : Int) + (-(l.length : Int)).fmod 3).fdiv 3 * 4 - 1 - (i : Int)).toNat = 3 - i := by rw [hmany']; exact tsub3 i
      obtain ⟨hp0, hp1, hp2⟩ := six_i hlen hmany' hi
      show wpAny _ _ _ _ _ _
      k_fold
      k_steps
      refine LCg.CompEnd.intro (by k_asm) (by k_asm) _ (fun p hp => hp) off trivial ⟨rfl, _, _, sixT_get hi, by rw [e64, hXe]⟩
    · intro ys hys hV
      have hss := strs_at (ls := sixT l p) (by rw [hys, sixT_len]) hV
      have hz2 := sixT_sum l p
      have hz3 : (sixT l p).flatten.length ≤ 10 := by rw [List.length_flatten, hz2]; rcases hlen with h | h <;> rw [h] <;> decide
      have hz4 : ((sixT l p).map List.length).sum ≤ 1000000 := by rw [hz2]; rcases hlen with h | h <;> rw [h] <;> decide
      intro D h tk F N off
      have e3 : ((-(l.length : Int)).fmod 3).toNat = 3 - l.length := by rw [hsz]; exact tsub3 _
      k_steps
      exact hret _ _ _ (by rw [← hgg]; assumption) ⟨_, congrArg (fun z => Value.str z _) (by rw [e3]; exact six_eq l hl p)⟩
end
section
theorem kz_Back : True := by
  k_with_none
  k_with "mine:room" => (first | exact Room.lt (by assumption) | exact Room.lt (Room.deep (k := 1) (e := 0) (by assumption) (by decide)) | exact Room.lt (Room.deep (k := 1) (e := 0) (Room.deep (k := 1) (e := 1) (by assumption) (by decide)) (by decide)) | exact Room.deep (by assumption) (by decide) | ((with_reducible show Room _ _); unfold Room; decide) | ((with_reducible show Room _ _); unfold Room; simp only [depth_under_make, depth_under_kw, depth_in1, depth_deeper, depth_caller]; decide))
  k_with "mine:units" => (first | exact Units.deep (by assumption) (by decide) | exact Units.deep2 (by assumption) (by decide) | ((with_reducible show Units _ _); unfold Units; ktr_units))
  k_with "mine:all1" => (first | exact fnil | (refine fcons (by with_unfolding_all rfl) ?_; walk_at "mine:all1"))
  k_with "mine:allin" => (first | exact fnil | (refine fcons (by k_memK) ?_; walk_at "mine:allin") | (intro p9 h9; kst_mem))
  k_with "mine:all" => (first | exact fnil | (refine' fcons ?mqfa ?mqfb; (case mqfa => k_ne); (case mqfb => walk_at "mine:all")))
  k_with "mine:cell" => (first
  | (refine' callP ?mqk1 ?mqk2 ?mqk3 ?mqk5 ?mqkA ?mqkF ?mqkK ?mqk6 ?mqk7 ?mqk8 ?mqk9 ?mqkB ?_ ?mqc2 ?mqc3 ?mqc4 ?mqc5; (case mqkA => exact rfl); (case mqkF => exact rfl); (case mqkK => assumption); (case mqk1 => k_asm); (case mqk2 => k_asm); (case mqk3 => k_asm); (case mqk5 => k_asm); (case mqk6 => k_is); (case mqk7 => k_is); (case mqk8 => ktr_room); (case mqk9 => first | exact BindsTo.of_eq rfl | exact binds_K (by k_in) rfl (by k_is) rfl rfl rfl); (case mqc5 => decide); (case mqkB => exact locs rfl); (case mqc2 => exact rfl); (case mqc3 => exact rfl); (case mqc4 => exact rfl); k_whole; intro _ _ _ _ _ _ _ _ _ _; walk_at "mine:let"; (try dsimp only); (try k_fold); (try walk_at "mine:env"))
  | (refine' callPC ?mqk1 ?mqk2 ?mqk3 ?mqk5 ?mqkA ?mqkF ?mqkK ?mqk6 ?mqk7 ?mqk8 ?mqk9 ?mqkB ?mqkD ?_ ?mqc2 ?mqc3 ?mqc4; (case mqkA => exact rfl); (case mqkF => exact rfl); (case mqkK => assumption); (case mqk1 => k_asm); (case mqk2 => k_asm); (case mqk3 => k_asm); (case mqk5 => k_asm); (case mqk6 => k_is); (case mqk7 => k_is); (case mqk8 => ktr_room); (case mqk9 => first | exact BindsTo.of_eq rfl | exact binds_K (by k_in) rfl (by k_is) rfl rfl rfl); (case mqkB => exact rfl); (case mqkD => decide +kernel); (case mqc2 => exact rfl); (case mqc3 => exact rfl); (case mqc4 => exact rfl); k_whole; intro _ _ _ _ _ _ _ _ N' Y' _ _ _; walk_at "mine:let"; k_cells Y'; (try simp only [List.cons_append, List.nil_append] at N'); (try (revert N'; intro _)); (try dsimp only); (try k_fold); (try walk_at "mine:env")))
  k_with "call type:bytes" => (k_here; (with_reducible show wpAny _ _ (call (Value.type "bytes") [Value.ref _]) _ _ _); k_dflt (refine' KBa.make_K ?mqkbaF ?mqkbaN ?mqkbah ?mqkbal ?mqkbai ?mqkbar ?mqkban ?_; (case mqkbaF => k_asm); (case mqkbaN => k_asm); (case mqkbah => rfl); (case mqkbal => exact News.isList (by k_asm) (by k_mem)); (case mqkbai => first | exact IntsAre.cons _ _ (IntsAre.cons _ _ (IntsAre.cons _ _ (IntsAre.cons _ _ IntsAre.nil))) | exact IntsAre.cons _ _ (IntsAre.cons _ _ IntsAre.nil) | exact IntsAre.cons _ _ IntsAre.nil); (case mqkbar => (repeat (first | exact fnil | refine fcons ⟨by omega, by omega⟩ ?_))); (case mqkban => exact Nat.le_of_ble_eq_true rfl); k_whole); intro _ _ _ _ _ _)
  k_with "call type:list" => (k_here; (with_reducible show wpAny _ _ (call (Value.type "list") [Value.bytes _ _]) _ _ _); first
  | (k_dflt (refine' list_bytes1 ?mqk1 ?mqk2 ?mqk3 ?mqk4 ?_; (case mqk1 => k_asm); (case mqk2 => k_asm); (case mqk3 => rfl); (case mqk4 => assumption)); intro _ _ _ _ _ _ _ l1; (try k_lt l1); (try (revert l1; intro _)))
  | (k_dflt (refine' list_bytes2 ?mqk1 ?mqk2 ?mqk3 ?mqk4 ?_; (case mqk1 => k_asm); (case mqk2 => k_asm); (case mqk3 => rfl); (case mqk4 => assumption)); intro _ _ _ _ _ _ _ _ l1; (try k_lt l1); (try (revert l1; intro _))))
  k_with "exec For Name BinOp cons nil" => (k_here; (with_unfolding_all refine' For_invVF ?mqkF ?mqk1 ?mqk2 ?_; (case mqkF => k_asm); (case mqk1 => exact rfl); (case mqk2 => exact rfl); k_whole))
  k_with "mine:env" => ((show (let AA := _; let EE := _; wpAny _ AA (execs _ EE) _ _ _)); intro AA EE)
  k_with "mine:let" => ((rename Fr _ _ _ _ => lF'); refine fr_let lF' ?_; clear lF'; intro _ _)
  k_with "storeName" => (k_here; k_dflt (refine' storeM ?mqF ?mqN ?_ ?mqhk ?mqhx; (case mqF => k_asm); (case mqN => k_asm); (case mqhk => exact rfl); (case mqhx => exact rfl); k_whole); intro _ _ _ _ _; (try k_sweep))
  k_with "mine:turn" => (walk_at "mine:let"; (show wpAny _ _ _ _ _ _); k_fold)
  k_with "mine:led" => (intro p hp; revert p; repeat (first | exact fnil | refine fcons rfl ?_))
  k_with "mine:same" => ((try dsimp (config := { zetaDelta := true }) only); ksw_same)
  k_with "mine:used" => (intro _ _ _ _ _ _ r9; (obtain ⟨_, e9⟩ := r9); subst e9; (try dsimp only); (try k_fold))
  k_with "mine:usedN" => (intro _ _ _ _ _ _ _ _ _ _; (try dsimp only); (try k_fold))
  k_with "mine:forG" => (k_dflt (refine' For_G ?mqkF ?_; (case mqkF => k_asm)))
  k_with "mine:forT" => (k_dflt (refine' For_T ?mqkF ?_; (case mqkF => k_asm)))
  k_with "call type:type" => (k_here; (with_reducible show wpAny _ _ (call _ [Value.bytes _ _]) _ _ _); refine call_type_of (Tx := "bytes") rfl (by decide +kernel) ?_)
  k_with "pyIter bytes" => ((with_reducible show wpAny _ _ (pyIter (Value.bytes _ _)) (fun it s₂ => LoopAtV _ _ _ _ _ _ _ _ _ it s₂) _ _); k_here; k_bytesUnr)
  k_with "subscriptTail" => (k_here; (with_reducible show wpAny _ _ (subscriptTail (Expr.Name "_B64" _) _ (Value.bytes _ _) (Value.int _ _)) _ _ _); with_unfolding_all refine' b64_item ?mqh0 ?mqh1 (fun _ _ _ _ => ?_) ?mqhs ?mqht; (case mqh0 => first | assumption | exact Nat.le_trans (by assumption) (by decide) | omega); (case mqh1 => first | assumption | exact Nat.le_trans (by assumption) (by decide) | omega); (case mqhs => with_unfolding_all rfl); (case mqht => intro _; with_unfolding_all rfl))
  k_with "binaryOp RShift int int" => (k_here; first
  | (refine' rsh2 ?mqhn ?_; (case mqhn => first | assumption | exact Nat.le_trans (by assumption) (by decide) | omega))
  | (refine' rsh4 ?mqhn ?_; (case mqhn => first | assumption | exact Nat.le_trans (by assumption) (by decide) | omega)))
  k_with "binaryOp LShift int int" => (k_here; first
  | (refine' lsh_ 8 256 ?mqhn ?mqhk ?mqhP ?mqh0 ?mqh1 ?_; (case mqhn => decide); (case mqhk => decide); (case mqhP => decide); (case mqh0 => first | assumption | exact Nat.le_trans (by assumption) (by decide) | omega); (case mqh1 => first | assumption | exact Nat.le_trans (by assumption) (by decide) | omega))
  | (refine' lsh_ 6 64 ?mqhn ?mqhk ?mqhP ?mqh0 ?mqh1 ?_; (case mqhn => decide); (case mqhk => decide); (case mqhP => decide); (case mqh0 => first | assumption | exact Nat.le_trans (by assumption) (by decide) | omega); (case mqh1 => first | assumption | exact Nat.le_trans (by assumption) (by decide) | omega))
  | (refine' lsh_ 4 16 ?mqhn ?mqhk ?mqhP ?mqh0 ?mqh1 ?_; (case mqhn => decide); (case mqhk => decide); (case mqhP => decide); (case mqh0 => first | assumption | exact Nat.le_trans (by assumption) (by decide) | omega); (case mqh1 => first | assumption | exact Nat.le_trans (by assumption) (by decide) | omega))
  | (refine' lsh_ 2 4 ?mqhn ?mqhk ?mqhP ?mqh0 ?mqh1 ?_; (case mqhn => decide); (case mqhk => decide); (case mqhP => decide); (case mqh0 => first | assumption | exact Nat.le_trans (by assumption) (by decide) | omega); (case mqh1 => first | assumption | exact Nat.le_trans (by assumption) (by decide) | omega)))
  k_with "binaryOp BitOr int int" => (k_here; first
  | (refine' or_ 8 256 ?mqhP ?mqh0 ?mqh1 ?mqh2 ?_; (case mqhP => decide); (case mqh0 => first | assumption | exact Nat.le_trans (by assumption) (by decide) | omega); (case mqh1 => first | assumption | exact Nat.le_trans (by assumption) (by decide) | omega); (case mqh2 => first | assumption | exact Nat.le_trans (by assumption) (by decide) | omega))
  | (refine' or_ 6 64 ?mqhP ?mqh0 ?mqh1 ?mqh2 ?_; (case mqhP => decide); (case mqh0 => first | assumption | exact Nat.le_trans (by assumption) (by decide) | omega); (case mqh1 => first | assumption | exact Nat.le_trans (by assumption) (by decide) | omega); (case mqh2 => first | assumption | exact Nat.le_trans (by assumption) (by decide) | omega))
  | (refine' or_ 4 16 ?mqhP ?mqh0 ?mqh1 ?mqh2 ?_; (case mqhP => decide); (case mqh0 => first | assumption | exact Nat.le_trans (by assumption) (by decide) | omega); (case mqh1 => first | assumption | exact Nat.le_trans (by assumption) (by decide) | omega); (case mqh2 => first | assumption | exact Nat.le_trans (by assumption) (by decide) | omega))
  | (refine' or_ 2 4 ?mqhP ?mqh0 ?mqh1 ?mqh2 ?_; (case mqhP => decide); (case mqh0 => first | assumption | exact Nat.le_trans (by assumption) (by decide) | omega); (case mqh1 => first | assumption | exact Nat.le_trans (by assumption) (by decide) | omega); (case mqh2 => first | assumption | exact Nat.le_trans (by assumption) (by decide) | omega)))
  k_with "binaryOp BitAnd int int" => (k_here; first
  | refine and65535 ?_
  | refine and63 ?_
  | refine and15 ?_
  | refine and3 ?_)
  k_with "getMethod bytes" => (k_here; (with_reducible refine method_translate ?_))
  k_with "call builtin:bytes.translate" => (k_here; first
  | (refine' call_urlenc ?mqh1 ?mqh2 (fun _ _ => ?_); (case mqh1 => assumption); (case mqh2 => first | kernel_rfl | decide +kernel))
  | (refine' call_urldec ?mqh1 ?mqh2 (fun _ _ => ?_); (case mqh1 => assumption); (case mqh2 => first | kernel_rfl | decide +kernel)))
  k_with "call type:str" => (k_here; (with_reducible show wpAny _ _ (call (Value.type "str") [Value.bytes _ _, Value.str _ _]) _ _ _); first
  | (refine' call_strword0 ?mqh1 (fun _ _ => ?_); (case mqh1 => assumption))
  | (refine' call_strword ?mqh1 (fun _ _ => ?_); (case mqh1 => assumption)))
  k_with "getMethod str" => (k_here; first | with_reducible refine m_encode ?_ | with_reducible refine m_translate ?_)
  k_with "call builtin:str.encode" => (k_here; refine' call_encword ?mqh1 (fun _ _ => ?_); (case mqh1 => assumption))
  k_with "binaryOp Add str str" => (k_here; refine' add_SS ?mqhx ?mqhy ?mqhsz (fun _ _ => ?_); (case mqhx => first | rfl | exact ofS _ | exact S_of _); (case mqhy => first | rfl | exact ofS _ | exact S_of _); (case mqhsz => ((try simp only [List.length_append, List.length_cons, List.length_nil, List.length_replicate]); omega)))
  k_with "binaryOp Mult str int" => (k_here; refine' mul_S ?mqhx ?mqh0 ?mqh1 (fun _ _ => ?_); (case mqhx => exact ofS _); (case mqh0 => first | assumption | exact Nat.le_trans (by assumption) (by decide) | omega); (case mqh1 => first | assumption | exact Nat.le_trans (by assumption) (by decide) | omega))
  k_with "subscriptTail" => (k_here; (with_reducible show wpAny _ _ (subscriptTail _ _ (Value.str _ _) (Value.int _ _)) _ _ _); with_unfolding_all refine' item_S ?mqhx ?mqh0 ?mqh1 ?mqh2 (fun _ _ => ?_) ?mqhs ?mqht; (case mqhx => first | rfl | exact ofS _ | exact S_of _); (case mqh0 => ktr_rel); (case mqh1 => ktr_rel); (case mqh2 => ktr_rel); (case mqhs => with_unfolding_all rfl); (case mqht => intro _; with_unfolding_all rfl))
  k_with "eval Constant int" => (with_reducible refine const_i ?_)
  k_with "binaryOp Add int int" => (with_reducible refine add_i ?_)
  k_with "binaryOp Sub int int" => (with_reducible refine sub_i ?_)
  trivial
theorem c_fromstr (w : World) (l : List Int) (hl : l ∈ rowTab) (p : Bool) (t : Tok) :
    Spec w 6 65 [.str (wordS l p) t] [] (fun _ => True) (fun _ _ v => ∃ t, v = .bytes (byteArr (wI l p)) t) := by
  unfold Spec
  k_fill
  intros; rename_i hret
  refine wpAny_call ?_
  k_dflt cell_enter
  rename _ = Shared.heap _ => hgg
  k_steps
  exact hret _ _ _ (by rw [← hgg]; assumption) ⟨_, rfl⟩
theorem c_frombytes (w : World) (b : Array UInt8) (t : Tok) :
    Spec w 6 65 [.bytes b t] [] (fun _ => True) (fun _ _ v => ∃ t, v = .bytes b t) := by
  unfold Spec
  k_fill
  intros; rename_i hret
  refine wpAny_call ?_
  k_dflt cell_enter
  rename _ = Shared.heap _ => hgg
  k_steps
  exact hret _ _ _ (by rw [← hgg]; assumption) ⟨_, rfl⟩
end
section
theorem kz_Dec : True := by
  k_with_none
  k_with "mine:room" => (first | exact Room.lt (by assumption) | exact Room.lt (Room.deep (k := 1) (e := 0) (by assumption) (by decide)) | exact Room.lt (Room.deep (k := 1) (e := 0) (Room.deep (k := 1) (e := 1) (by assumption) (by decide)) (by decide)) | exact Room.deep (by assumption) (by decide) | ((with_reducible show Room _ _); unfold Room; decide) | ((with_reducible show Room _ _); unfold Room; simp only [depth_under_make, depth_under_kw, depth_in1, depth_deeper, depth_caller]; decide))
  k_with "mine:units" => (first | exact Units.deep (by assumption) (by decide) | exact Units.deep2 (by assumption) (by decide) | ((with_reducible show Units _ _); unfold Units; ktr_units))
  k_with "mine:all1" => (first | exact fnil | (refine fcons (by with_unfolding_all rfl) ?_; walk_at "mine:all1"))
  k_with "mine:allin" => (first | exact fnil | (refine fcons (by k_memK) ?_; walk_at "mine:allin") | (intro p9 h9; kst_mem))
  k_with "mine:all" => (first | exact fnil | (refine' fcons ?mqfa ?mqfb; (case mqfa => k_ne); (case mqfb => walk_at "mine:all")))
  k_with "mine:cell" => (first
  | (refine' callP ?mqk1 ?mqk2 ?mqk3 ?mqk5 ?mqkA ?mqkF ?mqkK ?mqk6 ?mqk7 ?mqk8 ?mqk9 ?mqkB ?_ ?mqc2 ?mqc3 ?mqc4 ?mqc5; (case mqkA => exact rfl); (case mqkF => exact rfl); (case mqkK => assumption); (case mqk1 => k_asm); (case mqk2 => k_asm); (case mqk3 => k_asm); (case mqk5 => k_asm); (case mqk6 => k_is); (case mqk7 => k_is); (case mqk8 => ktr_room); (case mqk9 => first | exact BindsTo.of_eq rfl | exact binds_K (by k_in) rfl (by k_is) rfl rfl rfl); (case mqc5 => decide); (case mqkB => exact locs rfl); (case mqc2 => exact rfl); (case mqc3 => exact rfl); (case mqc4 => exact rfl); k_whole; intro _ _ _ _ _ _ _ _ _ _; walk_at "mine:let"; (try dsimp only); (try k_fold); (try walk_at "mine:env"))
  | (refine' callPC ?mqk1 ?mqk2 ?mqk3 ?mqk5 ?mqkA ?mqkF ?mqkK ?mqk6 ?mqk7 ?mqk8 ?mqk9 ?mqkB ?mqkD ?_ ?mqc2 ?mqc3 ?mqc4; (case mqkA => exact rfl); (case mqkF => exact rfl); (case mqkK => assumption); (case mqk1 => k_asm); (case mqk2 => k_asm); (case mqk3 => k_asm); (case mqk5 => k_asm); (case mqk6 => k_is); (case mqk7 => k_is); (case mqk8 => ktr_room); (case mqk9 => first | exact BindsTo.of_eq rfl | exact binds_K (by k_in) rfl (by k_is) rfl rfl rfl); (case mqkB => exact rfl); (case mqkD => decide +kernel); (case mqc2 => exact rfl); (case mqc3 => exact rfl); (case mqc4 => exact rfl); k_whole; intro _ _ _ _ _ _ _ _ N' Y' _ _ _; walk_at "mine:let"; k_cells Y'; (try simp only [List.cons_append, List.nil_append] at N'); (try (revert N'; intro _)); (try dsimp only); (try k_fold); (try walk_at "mine:env")))
  k_with "call type:bytes" => (k_here; (with_reducible show wpAny _ _ (call (Value.type "bytes") [Value.ref _]) _ _ _); k_dflt (refine' KBa.make_K ?mqkbaF ?mqkbaN ?mqkbah ?mqkbal ?mqkbai ?mqkbar ?mqkban ?_; (case mqkbaF => k_asm); (case mqkbaN => k_asm); (case mqkbah => rfl); (case mqkbal => exact News.isList (by k_asm) (by k_mem)); (case mqkbai => first | exact IntsAre.cons _ _ (IntsAre.cons _ _ (IntsAre.cons _ _ (IntsAre.cons _ _ IntsAre.nil))) | exact IntsAre.cons _ _ (IntsAre.cons _ _ IntsAre.nil) | exact IntsAre.cons _ _ IntsAre.nil); (case mqkbar => (repeat (first | exact fnil | refine fcons ⟨by omega, by omega⟩ ?_))); (case mqkban => exact Nat.le_of_ble_eq_true rfl); k_whole); intro _ _ _ _ _ _)
  k_with "call type:list" => (k_here; (with_reducible show wpAny _ _ (call (Value.type "list") [Value.bytes _ _]) _ _ _); first
  | (k_dflt (refine' list_bytes1 ?mqk1 ?mqk2 ?mqk3 ?mqk4 ?_; (case mqk1 => k_asm); (case mqk2 => k_asm); (case mqk3 => rfl); (case mqk4 => assumption)); intro _ _ _ _ _ _ _ l1; (try k_lt l1); (try (revert l1; intro _)))
  | (k_dflt (refine' list_bytes2 ?mqk1 ?mqk2 ?mqk3 ?mqk4 ?_; (case mqk1 => k_asm); (case mqk2 => k_asm); (case mqk3 => rfl); (case mqk4 => assumption)); intro _ _ _ _ _ _ _ _ l1; (try k_lt l1); (try (revert l1; intro _))))
  k_with "exec For Name BinOp cons nil" => (k_here; (with_unfolding_all refine' For_invVF ?mqkF ?mqk1 ?mqk2 ?_; (case mqkF => k_asm); (case mqk1 => exact rfl); (case mqk2 => exact rfl); k_whole))
  k_with "mine:env" => ((show (let AA := _; let EE := _; wpAny _ AA (execs _ EE) _ _ _)); intro AA EE)
  k_with "mine:let" => ((rename Fr _ _ _ _ => lF'); refine fr_let lF' ?_; clear lF'; intro _ _)
  k_with "storeName" => (k_here; k_dflt (refine' storeM ?mqF ?mqN ?_ ?mqhk ?mqhx; (case mqF => k_asm); (case mqN => k_asm); (case mqhk => exact rfl); (case mqhx => exact rfl); k_whole); intro _ _ _ _ _; (try k_sweep))
  k_with "mine:turn" => (walk_at "mine:let"; (show wpAny _ _ _ _ _ _); k_fold)
  k_with "mine:led" => (intro p hp; revert p; repeat (first | exact fnil | refine fcons rfl ?_))
  k_with "mine:same" => ((try dsimp (config := { zetaDelta := true }) only); ksw_same)
  k_with "mine:used" => (intro _ _ _ _ _ _ r9; (obtain ⟨_, e9⟩ := r9); subst e9; (try dsimp only); (try k_fold))
  k_with "mine:usedN" => (intro _ _ _ _ _ _ _ _ _ _; (try dsimp only); (try k_fold))
  k_with "mine:forG" => (k_dflt (refine' For_G ?mqkF ?_; (case mqkF => k_asm)))
  k_with "mine:forT" => (k_dflt (refine' For_T ?mqkF ?_; (case mqkF => k_asm)))
  k_with "call type:type" => (k_here; (with_reducible show wpAny _ _ (call _ [Value.bytes _ _]) _ _ _); refine call_type_of (Tx := "bytes") rfl (by decide +kernel) ?_)
  k_with "pyIter bytes" => ((with_reducible show wpAny _ _ (pyIter (Value.bytes _ _)) (fun it s₂ => LoopAtV _ _ _ _ _ _ _ _ _ it s₂) _ _); k_here; k_bytesUnr)
  k_with "subscriptTail" => (k_here; (with_reducible show wpAny _ _ (subscriptTail (Expr.Name "_B64" _) _ (Value.bytes _ _) (Value.int _ _)) _ _ _); with_unfolding_all refine' b64_item ?mqh0 ?mqh1 (fun _ _ _ _ => ?_) ?mqhs ?mqht; (case mqh0 => first | assumption | exact Nat.le_trans (by assumption) (by decide) | omega); (case mqh1 => first | assumption | exact Nat.le_trans (by assumption) (by decide) | omega); (case mqhs => with_unfolding_all rfl); (case mqht => intro _; with_unfolding_all rfl))
  k_with "binaryOp RShift int int" => (k_here; first
  | (refine' rsh2 ?mqhn ?_; (case mqhn => first | assumption | exact Nat.le_trans (by assumption) (by decide) | omega))
  | (refine' rsh4 ?mqhn ?_; (case mqhn => first | assumption | exact Nat.le_trans (by assumption) (by decide) | omega)))
  k_with "binaryOp LShift int int" => (k_here; first
  | (refine' lsh_ 8 256 ?mqhn ?mqhk ?mqhP ?mqh0 ?mqh1 ?_; (case mqhn => decide); (case mqhk => decide); (case mqhP => decide); (case mqh0 => first | assumption | exact Nat.le_trans (by assumption) (by decide) | omega); (case mqh1 => first | assumption | exact Nat.le_trans (by assumption) (by decide) | omega))
  | (refine' lsh_ 6 64 ?mqhn ?mqhk ?mqhP ?mqh0 ?mqh1 ?_; (case mqhn => decide); (case mqhk => decide); (case mqhP => decide); (case mqh0 => first | assumption | exact Nat.le_trans (by assumption) (by decide) | omega); (case mqh1 => first | assumption | exact Nat.le_trans (by assumption) (by decide) | omega))
  | (refine' lsh_ 4 16 ?mqhn ?mqhk ?mqhP ?mqh0 ?mqh1 ?_; (case mqhn => decide); (case mqhk => decide); (case mqhP => decide); (case mqh0 => first | assumption | exact Nat.le_trans (by assumption) (by decide) | omega); (case mqh1 => first | assumption | exact Nat.le_trans (by assumption) (by decide) | omega))
  | (refine' lsh_ 2 4 ?mqhn ?mqhk ?mqhP ?mqh0 ?mqh1 ?_; (case mqhn => decide); (case mqhk => decide); (case mqhP => decide); (case mqh0 => first | assumption | exact Nat.le_trans (by assumption) (by decide) | omega); (case mqh1 => first | assumption | exact Nat.le_trans (by assumption) (by decide) | omega)))
  k_with "binaryOp BitOr int int" => (k_here; first
  | (refine' or_ 8 256 ?mqhP ?mqh0 ?mqh1 ?mqh2 ?_; (case mqhP => decide); (case mqh0 => first | assumption | exact Nat.le_trans (by assumption) (by decide) | omega); (case mqh1 => first | assumption | exact Nat.le_trans (by assumption) (by decide) | omega); (case mqh2 => first | assumption | exact Nat.le_trans (by assumption) (by decide) | omega))
  | (refine' or_ 6 64 ?mqhP ?mqh0 ?mqh1 ?mqh2 ?_; (case mqhP => decide); (case mqh0 => first | assumption | exact Nat.le_trans (by assumption) (by decide) | omega); (case mqh1 => first | assumption | exact Nat.le_trans (by assumption) (by decide) | omega); (case mqh2 => first | assumption | exact Nat.le_trans (by assumption) (by decide) | omega))
  | (refine' or_ 4 16 ?mqhP ?mqh0 ?mqh1 ?mqh2 ?_; (case mqhP => decide); (case mqh0 => first | assumption | exact Nat.le_trans (by assumption) (by decide) | omega); (case mqh1 => first | assumption | exact Nat.le_trans (by assumption) (by decide) | omega); (case mqh2 => first | assumption | exact Nat.le_trans (by assumption) (by decide) | omega))
  | (refine' or_ 2 4 ?mqhP ?mqh0 ?mqh1 ?mqh2 ?_; (case mqhP => decide); (case mqh0 => first | assumption | exact Nat.le_trans (by assumption) (by decide) | omega); (case mqh1 => first | assumption | exact Nat.le_trans (by assumption) (by decide) | omega); (case mqh2 => first | assumption | exact Nat.le_trans (by assumption) (by decide) | omega)))
  k_with "binaryOp BitAnd int int" => (k_here; first
  | refine and65535 ?_
  | refine and63 ?_
  | refine and15 ?_
  | refine and3 ?_)
  k_with "getMethod bytes" => (k_here; (with_reducible refine method_translate ?_))
  k_with "call builtin:bytes.translate" => (k_here; first
  | (refine' call_urlenc ?mqh1 ?mqh2 (fun _ _ => ?_); (case mqh1 => assumption); (case mqh2 => first | kernel_rfl | decide +kernel))
  | (refine' call_urldec ?mqh1 ?mqh2 (fun _ _ => ?_); (case mqh1 => assumption); (case mqh2 => first | kernel_rfl | decide +kernel)))
  k_with "call type:str" => (k_here; (with_reducible show wpAny _ _ (call (Value.type "str") [Value.bytes _ _, Value.str _ _]) _ _ _); first
  | (refine' call_strword0 ?mqh1 (fun _ _ => ?_); (case mqh1 => assumption))
  | (refine' call_strword ?mqh1 (fun _ _ => ?_); (case mqh1 => assumption)))
  k_with "getMethod str" => (k_here; first | with_reducible refine m_encode ?_ | with_reducible refine m_translate ?_)
  k_with "call builtin:str.encode" => (k_here; refine' call_encword ?mqh1 (fun _ _ => ?_); (case mqh1 => assumption))
  k_with "binaryOp Add str str" => (k_here; refine' add_SS ?mqhx ?mqhy ?mqhsz (fun _ _ => ?_); (case mqhx => first | rfl | exact ofS _ | exact S_of _); (case mqhy => first | rfl | exact ofS _ | exact S_of _); (case mqhsz => ((try simp only [List.length_append, List.length_cons, List.length_nil, List.length_replicate]); omega)))
  k_with "binaryOp Mult str int" => (k_here; refine' mul_S ?mqhx ?mqh0 ?mqh1 (fun _ _ => ?_); (case mqhx => exact ofS _); (case mqh0 => first | assumption | exact Nat.le_trans (by assumption) (by decide) | omega); (case mqh1 => first | assumption | exact Nat.le_trans (by assumption) (by decide) | omega))
  k_with "subscriptTail" => (k_here; (with_reducible show wpAny _ _ (subscriptTail _ _ (Value.str _ _) (Value.int _ _)) _ _ _); with_unfolding_all refine' item_S ?mqhx ?mqh0 ?mqh1 ?mqh2 (fun _ _ => ?_) ?mqhs ?mqht; (case mqhx => first | rfl | exact ofS _ | exact S_of _); (case mqh0 => ktr_rel); (case mqh1 => ktr_rel); (case mqh2 => ktr_rel); (case mqhs => with_unfolding_all rfl); (case mqht => intro _; with_unfolding_all rfl))
  k_with "eval Constant int" => (with_reducible refine const_i ?_)
  k_with "binaryOp Add int int" => (with_reducible refine add_i ?_)
  k_with "binaryOp Sub int int" => (with_reducible refine sub_i ?_)
  trivial
noncomputable def b64v (c : Int) : Int := if 65 ≤ c ∧ c ≤ 90 then c - 65 else if 97 ≤ c ∧ c ≤ 122 then c - 71 else if 48 ≤ c ∧ c ≤ 57 then c + 4 else if c = 43 then 62 else if c = 47 then 63 else 64
theorem c_b64_value (w : World) (c : Int) (t : Tok) :
   Spec w 2 106 [.int c t] [] (fun _ => True) (fun _ _ v => ∃ t, v = .int (b64v c) t) := by
  unfold Spec
  k_fill
  intros; rename_i hret
  refine wpAny_call ?_
  k_dflt cell_enter
  rename _ = Shared.heap _ => hgg
  k_steps
  all_goals (refine hret _ _ _ (by rw [← hgg]; assumption) ⟨_, congrArg (fun z => Value.int z _) ?_⟩; unfold b64v; (repeat' split) <;> omega)
section
variable {prog : Program} {w : World} {A : Around} {E : Value → Shared → Prop} {s : Shared} {a b : Int} {t u : Tok} {Q : Value → Shared → Prop}
theorem eqi_no (h : a ≠ b) (q : Q (.bool false) s) : wpAny (model prog w) A (compareOp .Eq (.int a t) (.int b u)) Q E s := by
  refine eq_int ?_
  rw [show (a == b) = false from beq_false_of_ne h]
  exact q
theorem eqi_yes (h : a = b) (q : Q (.bool true) s) : wpAny (model prog w) A (compareOp .Eq (.int a t) (.int b u)) Q E s := by
  refine eq_int ?_
  rw [show (a == b) = true from beq_iff_eq.mpr h]
  exact q
end
theorem kw_j4 : True := by
  k_with "call ref" => (k_here; (with_reducible show wpAny _ _ (call (Value.ref 106) _ _) _ _ _); k_dflt (refine' Spec.use (c_b64_value _ _ _) ?mqk1 ?mqk2 ?mqk3 ?mqk4 ?mqk5 ?mqkK ?mqkd ?mqku ?mqkp ?_; (case mqk1 => k_asm); (case mqk2 => k_asm); (case mqk3 => k_asm); (case mqk4 => k_asm); (case mqk5 => k_asm); (case mqkK => first | exact rfl | assumption); (case mqkd => ktr_room); (case mqku => ktr_units); (case mqkp => exact trivial)); walk_at "mine:used")
  trivial

theorem kw_Jx19 : True := by
  k_with "compareOp Eq int int" => (k_here; refine' eqi_no ?mqh ?_; (case mqh => assumption))
  trivial
theorem kw_Jx20 : True := by
  k_with "call builtin:list.append" => (k_here; (with_reducible show wpAny _ _ (call (Value.builtin _) [Value.ref _, _]) _ _ _); k_dflt (refine' append_K ?mqk1 ?mqk2 ?mqk3 ?_ ?mqz; (case mqk1 => k_asm); (case mqk2 => k_asm); (case mqk3 => k_upd); (case mqz => (rw [sizeLine_eq]; simp only [List.size_toArray, List.length_append, List.length_cons, List.length_nil]; omega)); k_whole); intro _ _ N'; (try simp only [List.push_toArray] at N'); (try (revert N'; intro _)))
  trivial
theorem kw_Jx21 : True := by
  k_with "exec For Name Name cons nil" => (k_here; walk_at "mine:forG")
  trivial
theorem kw_Jx22 : True := by
  k_with "pyIter bytes" => (k_here; refine halt ?_)
  trivial
theorem kw_Jx23 : True := by
  k_with "call type:bytes" => (k_here; refine halt ?_)
  trivial
noncomputable def bv (l : List Int) (i : Nat) : Int := b64v ((encL l).getD i 0)
noncomputable def qd : Nat → Nat → Int
  | 0, _ => 0
  | 1, _ => 1
  | 2, _ => 2
  | _, 1 => 2
  | _, _ => 3
noncomputable def pd : Nat → Nat → Int
  | 0, _ => 0
  | 1, _ => 0
  | 2, _ => 0
  | 3, 1 => 1
  | 3, _ => 0
  | _, 1 => 2
  | _, _ => 1
noncomputable def lf (l : List Int) : Nat → Nat → Int
  | 0, _ => 0
  | 1, _ => bv l 0
  | 2, _ => bv l 1 % 16
  | _, 1 => bv l 1 % 16
  | _, _ => bv l 2 % 4
noncomputable def ot (l : List Int) : Nat → Nat → List Int
  | 0, _ => []
  | 1, _ => []
  | 2, _ => [bv l 0 * 4 + bv l 1 / 16]
  | _, 1 => [bv l 0 * 4 + bv l 1 / 16]
  | _, _ => [bv l 0 * 4 + bv l 1 / 16] ++ [bv l 1 % 16 * 16 + bv l 2 / 4]
noncomputable def iv : Nat → Int
  | 0 => 0
  | 1 => 1
  | 2 => 2
  | 3 => 3
  | _ => 4
theorem st0 (l : List Int) (n : Nat) : qd 0 n = 0 ∧ lf l 0 n = 0 ∧ pd 0 n = 0 ∧ iv 0 = 0 := ⟨rfl, rfl, rfl, rfl⟩
theorem st1 (l : List Int) (n : Nat) : qd 1 n = 1 ∧ lf l 1 n = bv l 0 ∧ pd 1 n = 0 ∧ iv 1 = 1 := ⟨rfl, rfl, rfl, rfl⟩
theorem st2 (l : List Int) (n : Nat) : qd 2 n = 2 ∧ lf l 2 n = bv l 1 % 16 ∧ pd 2 n = 0 ∧ iv 2 = 2 := ⟨rfl, rfl, rfl, rfl⟩
theorem st31 (l : List Int) : qd 3 1 = 2 ∧ lf l 3 1 = bv l 1 % 16 ∧ pd 3 1 = 1 ∧ iv 3 = 3 := ⟨rfl, rfl, rfl, rfl⟩
theorem st32 (l : List Int) : qd 3 2 = 3 ∧ lf l 3 2 = bv l 2 % 4 ∧ pd 3 2 = 0 ∧ iv 3 = 3 := ⟨rfl, rfl, rfl, rfl⟩
theorem st41 (l : List Int) : qd 4 1 = 2 ∧ lf l 4 1 = bv l 1 % 16 ∧ pd 4 1 = 2 ∧ iv 4 = 4 := ⟨rfl, rfl, rfl, rfl⟩
theorem st42 (l : List Int) : qd 4 2 = 3 ∧ lf l 4 2 = bv l 2 % 4 ∧ pd 4 2 = 1 ∧ iv 4 = 4 := ⟨rfl, rfl, rfl, rfl⟩
theorem ot_len : ∀ l ∈ rowTab, ∀ i < 5, (ot l i l.length).length ≤ 2 := by decide +kernel
theorem ot_end : ∀ l ∈ rowTab, ot l 4 l.length = l := by decide +kernel
theorem row_in256 : ∀ l ∈ rowTab, ∀ k ∈ l, 0 ≤ k ∧ k < 256 := by decide +kernel
theorem enc_w : ∀ l ∈ rowTab, KBw.bInts (byteArr (encL l)) = encL l ∧ (encL l).length = 4 := by decide +kernel
theorem enc_c : ∀ l ∈ rowTab, ∀ i < 2, (encL l).getD i 0 ≠ 61 ∧ 0 ≤ b64v ((encL l).getD i 0) ∧ b64v ((encL l).getD i 0) < 64 := by decide +kernel
theorem enc_c1 : ∀ l ∈ rowTab, l.length = 1 → (encL l).getD 2 0 = 61 ∧ (encL l).getD 3 0 = 61 := by decide +kernel
theorem enc_c2 : ∀ l ∈ rowTab, l.length = 2 → (encL l).getD 2 0 ≠ 61 ∧ 0 ≤ b64v ((encL l).getD 2 0) ∧ b64v ((encL l).getD 2 0) < 64 ∧ (encL l).getD 3 0 = 61 := by decide +kernel
theorem c_a2b (w : World) (l : List Int) (hl : l ∈ rowTab) (t : Tok) :
   Spec w 5 114 [.bytes (byteArr (encL l)) t] [(Str.ofString "strict_mode", .bool false)] (fun _ => True) (fun _ _ v => ∃ t, v = .bytes (byteArr l) t) := by
  obtain ⟨hb, hb4⟩ := enc_w l hl
  have hlen : l.length = 1 ∨ l.length = 2 := by rcases row_cases hl with ⟨_, _, rfl⟩ | ⟨_, _, _, _, rfl⟩ <;> simp
  have y0 := enc_c l hl 0 (by decide)
  have y1 := enc_c l hl 1 (by decide)
  unfold Spec
  k_fill
  intros; rename_i hret
  refine wpAny_call ?_
  k_dflt cell_enter
  rename _ = Shared.heap _ => hgg
  k_steps
  rename_i T d1 d2 e1 e2 e3 e4 e5 e6 e7 e8 e9 e10 e11 e12 e13 e14 e15 F N
  refine fr_gen F fun m1 hm1 F => ?_
  refine for_bytes (l := encL l) (σ := Tok × Tok × Tok × Tok × List Value × Nat) (fun _ c => [(T, W.listOf c.2.2.2.2.1.toArray c.2.2.2.2.2)]) (fun i c => [(Str.ofString "quad_pos", .int (qd i l.length) c.1), (Str.ofString "leftchar", .int (lf l i l.length) c.2.1), (Str.ofString "pads", .int (pd i l.length) c.2.2.1), (Str.ofString "i", .int (iv i) c.2.2.2.1), (Str.ofString "out", .ref T), (Str.ofString "strict_mode", .bool false)]) (fun i c => IntsAre c.2.2.2.2.1 (ot l i l.length)) [Str.ofString "this_ch"] (_, _, _, _, [], 0)
    (by rfl) (by rfl) (by rfl) hb F N (fun p hp => (hm1 _).trans (by revert p; repeat (first | exact fnil | refine fcons rfl ?_))) .nil ?_ ?_
  · intro g i c u v I oI h tk E' hi hinv hv F N off
    obtain ⟨t1, rfl⟩ := hv
    have hTI : T ≠ I := off _ (.head _)
    have hIT : I ≠ T := Ne.symm hTI
    have b7 := ot_len l hl i (by omega)
    rw [← hinv.length] at b7
    rcases (by omega : i = 0 ∨ i = 1 ∨ i = 2 ∨ i = 3) with rfl | rfl | rfl | rfl
    · obtain ⟨y0, g0, g1⟩ := enc_c l hl 0 (by decide)
      obtain ⟨q1, q2, q3, q4⟩ := st0 l l.length
      dsimp only [kstB, List.cons_append, List.nil_append] at F N ⊢
      rw [q1, q2, q3, q4] at F
      refine wpAny_mono (?_ : wpAny _ _ _ _ (fun _ _ => False) _) (fun _ _ x => x) (fun _ _ x => False.elim x)
      walk_at "mine:let"
      k_fold
      k_steps
      walk_at "mine:zeta"
      rename News _ _ _ _ => nE
      refine for_end (c := (_, _, _, _, _, _)) (by k_asm) nE (by k_mem) (by kst_in) (fun p hp => by rw [List.mem_singleton.mp hp]; exact hTI) (by kst_all) (by ksw_same) ?_
      exact hinv
    · obtain ⟨y0, g0, g1⟩ := enc_c l hl 1 (by decide)
      obtain ⟨y2, g2, g3⟩ := enc_c l hl 0 (by decide)
      have g4 : bv l 0 = b64v ((encL l).getD 0 0) := rfl
      obtain ⟨q1, q2, q3, q4⟩ := st1 l l.length
      dsimp only [kstB, List.cons_append, List.nil_append] at F N ⊢
      rw [q1, q2, q3, q4] at F
      refine wpAny_mono (?_ : wpAny _ _ _ _ (fun _ _ => False) _) (fun _ _ x => x) (fun _ _ x => False.elim x)
      walk_at "mine:let"
      k_fold
      k_steps
      walk_at "mine:zeta"
      rename News _ _ _ _ => nE
      refine for_end (c := (_, _, _, _, _, _)) (by k_asm) nE (by k_mem) (by kst_in) (fun p hp => by rw [List.mem_singleton.mp hp]; exact hTI) (by kst_all) (by ksw_same) ?_
      exact ints_snoc hinv (bv l 0 * 4 + bv l 1 / 16) _
    · rcases hlen with hn | hn
      · obtain ⟨y0, -⟩ := enc_c1 l hl hn
        rw [hn] at hinv F ⊢
        rw [y0] at F
        obtain ⟨q1, q2, q3, q4⟩ := st2 l 1
        dsimp only [kstB, List.cons_append, List.nil_append] at F N ⊢
        rw [q1, q2, q3, q4] at F
        refine wpAny_mono (?_ : wpAny _ _ _ _ (fun _ _ => False) _) (fun _ _ x => x) (fun _ _ x => False.elim x)
        walk_at "mine:let"
        k_fold
        k_steps
        walk_at "mine:zeta"
        rename News _ _ _ _ => nE
        show ForTurn _ _ _ _ _ _ _ _ _ _ _ Flow.cont _
        refine for_end_c (c := (_, _, _, _, _, _)) (by k_asm) nE (by k_mem) (by kst_in) (fun p hp => by rw [List.mem_singleton.mp hp]; exact hTI) (by kst_all) (by ksw_same) ?_
        exact hinv
      · obtain ⟨y0, g0, g1, -⟩ := enc_c2 l hl hn
        obtain ⟨y2, g2, g3⟩ := enc_c l hl 1 (by decide)
        have g4 : bv l 1 = b64v ((encL l).getD 1 0) := rfl
        rw [hn] at hinv F ⊢
        obtain ⟨q1, q2, q3, q4⟩ := st2 l 2
        dsimp only [kstB, List.cons_append, List.nil_append] at F N ⊢
        rw [q1, q2, q3, q4] at F
        refine wpAny_mono (?_ : wpAny _ _ _ _ (fun _ _ => False) _) (fun _ _ x => x) (fun _ _ x => False.elim x)
        walk_at "mine:let"
        k_fold
        k_steps
        walk_at "mine:zeta"
        rename News _ _ _ _ => nE
        refine for_end (c := (_, _, _, _, _, _)) (by k_asm) nE (by k_mem) (by kst_in) (fun p hp => by rw [List.mem_singleton.mp hp]; exact hTI) (by kst_all) (by ksw_same) ?_
        exact ints_snoc hinv (bv l 1 % 16 * 16 + bv l 2 / 4) _
    · rcases hlen with hn | hn
      · obtain ⟨-, y0⟩ := enc_c1 l hl hn
        rw [hn] at hinv F ⊢
        rw [y0] at F
        obtain ⟨q1, q2, q3, q4⟩ := st31 l
        dsimp only [kstB, List.cons_append, List.nil_append] at F N ⊢
        rw [q1, q2, q3, q4] at F
        refine wpAny_mono (?_ : wpAny _ _ _ _ (fun _ _ => False) _) (fun _ _ x => x) (fun _ _ x => False.elim x)
        walk_at "mine:let"
        k_fold
        k_steps
        walk_at "mine:zeta"
        rename News _ _ _ _ => nE
        show ForTurn _ _ _ _ _ _ _ _ _ _ _ Flow.cont _
        refine for_end_c (c := (_, _, _, _, _, _)) (by k_asm) nE (by k_mem) (by kst_in) (fun p hp => by rw [List.mem_singleton.mp hp]; exact hTI) (by kst_all) (by ksw_same) ?_
        exact hinv
      · obtain ⟨-, -, -, y0⟩ := enc_c2 l hl hn
        rw [hn] at hinv F ⊢
        rw [y0] at F
        obtain ⟨q1, q2, q3, q4⟩ := st32 l
        dsimp only [kstB, List.cons_append, List.nil_append] at F N ⊢
        rw [q1, q2, q3, q4] at F
        refine wpAny_mono (?_ : wpAny _ _ _ _ (fun _ _ => False) _) (fun _ _ x => x) (fun _ _ x => False.elim x)
        walk_at "mine:let"
        k_fold
        k_steps
        walk_at "mine:zeta"
        rename News _ _ _ _ => nE
        show ForTurn _ _ _ _ _ _ _ _ _ _ _ Flow.cont _
        refine for_end_c (c := (_, _, _, _, _, _)) (by k_asm) nE (by k_mem) (by kst_in) (fun p hp => by rw [List.mem_singleton.mp hp]; exact hTI) (by kst_all) (by ksw_same) ?_
        exact hinv
  · intro g c u h tk hinv F N
    rw [hb4] at F hinv
    rw [ot_end l hl] at hinv
    have hl2 : l.length ≤ 2 := by omega
    rcases hlen with hn | hn
    · rw [hn] at F
      obtain ⟨q1, q2, q3, q4⟩ := st41 l
      dsimp only [kstB] at F N ⊢
      rw [q1, q2, q3, q4] at F
      walk_at "mine:let"
      show wpAny _ _ _ _ _ _
      k_steps
      show wpAny _ _ _ _ _ _
      k_dflt (refine KBa.make_K (ns := l) (by k_asm) (by k_asm) (by rfl) (News.isList (by k_asm) (by k_mem)) hinv (row_in256 l hl) (by omega) ?_)
      intro h' t' k' F' N' _
      k_steps
      exact hret _ _ _ (by rw [← hgg]; assumption) ⟨_, rfl⟩
    · rw [hn] at F
      obtain ⟨q1, q2, q3, q4⟩ := st42 l
      dsimp only [kstB] at F N ⊢
      rw [q1, q2, q3, q4] at F
      walk_at "mine:let"
      show wpAny _ _ _ _ _ _
      k_steps
      show wpAny _ _ _ _ _ _
      k_dflt (refine KBa.make_K (ns := l) (by k_asm) (by k_asm) (by rfl) (News.isList (by k_asm) (by k_mem)) hinv (row_in256 l hl) (by omega) ?_)
      intro h' t' k' F' N' _
      k_steps
      exact hret _ _ _ (by rw [← hgg]; assumption) ⟨_, rfl⟩
end
section
theorem kz_Bck2 : True := by
  k_with_none
  k_with "mine:room" => (first | exact Room.lt (by assumption) | exact Room.lt (Room.deep (k := 1) (e := 0) (by assumption) (by decide)) | exact Room.lt (Room.deep (k := 1) (e := 0) (Room.deep (k := 1) (e := 1) (by assumption) (by decide)) (by decide)) | exact Room.deep (by assumption) (by decide) | ((with_reducible show Room _ _); unfold Room; decide) | ((with_reducible show Room _ _); unfold Room; simp only [depth_under_make, depth_under_kw, depth_in1, depth_deeper, depth_caller]; decide))
  k_with "mine:units" => (first | exact Units.deep (by assumption) (by decide) | exact Units.deep2 (by assumption) (by decide) | ((with_reducible show Units _ _); unfold Units; ktr_units))
  k_with "mine:all1" => (first | exact fnil | (refine fcons (by with_unfolding_all rfl) ?_; walk_at "mine:all1"))
  k_with "mine:allin" => (first | exact fnil | (refine fcons (by k_memK) ?_; walk_at "mine:allin") | (intro p9 h9; kst_mem))
  k_with "mine:all" => (first | exact fnil | (refine' fcons ?mqfa ?mqfb; (case mqfa => k_ne); (case mqfb => walk_at "mine:all")))
  k_with "mine:cell" => (first
  | (refine' callP ?mqk1 ?mqk2 ?mqk3 ?mqk5 ?mqkA ?mqkF ?mqkK ?mqk6 ?mqk7 ?mqk8 ?mqk9 ?mqkB ?_ ?mqc2 ?mqc3 ?mqc4 ?mqc5; (case mqkA => exact rfl); (case mqkF => exact rfl); (case mqkK => assumption); (case mqk1 => k_asm); (case mqk2 => k_asm); (case mqk3 => k_asm); (case mqk5 => k_asm); (case mqk6 => k_is); (case mqk7 => k_is); (case mqk8 => ktr_room); (case mqk9 => first | exact BindsTo.of_eq rfl | exact binds_K (by k_in) rfl (by k_is) rfl rfl rfl); (case mqc5 => decide); (case mqkB => exact locs rfl); (case mqc2 => exact rfl); (case mqc3 => exact rfl); (case mqc4 => exact rfl); k_whole; intro _ _ _ _ _ _ _ _ _ _; walk_at "mine:let"; (try dsimp only); (try k_fold); (try walk_at "mine:env"))
  | (refine' callPC ?mqk1 ?mqk2 ?mqk3 ?mqk5 ?mqkA ?mqkF ?mqkK ?mqk6 ?mqk7 ?mqk8 ?mqk9 ?mqkB ?mqkD ?_ ?mqc2 ?mqc3 ?mqc4; (case mqkA => exact rfl); (case mqkF => exact rfl); (case mqkK => assumption); (case mqk1 => k_asm); (case mqk2 => k_asm); (case mqk3 => k_asm); (case mqk5 => k_asm); (case mqk6 => k_is); (case mqk7 => k_is); (case mqk8 => ktr_room); (case mqk9 => first | exact BindsTo.of_eq rfl | exact binds_K (by k_in) rfl (by k_is) rfl rfl rfl); (case mqkB => exact rfl); (case mqkD => decide +kernel); (case mqc2 => exact rfl); (case mqc3 => exact rfl); (case mqc4 => exact rfl); k_whole; intro _ _ _ _ _ _ _ _ N' Y' _ _ _; walk_at "mine:let"; k_cells Y'; (try simp only [List.cons_append, List.nil_append] at N'); (try (revert N'; intro _)); (try dsimp only); (try k_fold); (try walk_at "mine:env")))
  k_with "call type:bytes" => (k_here; (with_reducible show wpAny _ _ (call (Value.type "bytes") [Value.ref _]) _ _ _); k_dflt (refine' KBa.make_K ?mqkbaF ?mqkbaN ?mqkbah ?mqkbal ?mqkbai ?mqkbar ?mqkban ?_; (case mqkbaF => k_asm); (case mqkbaN => k_asm); (case mqkbah => rfl); (case mqkbal => exact News.isList (by k_asm) (by k_mem)); (case mqkbai => first | exact IntsAre.cons _ _ (IntsAre.cons _ _ (IntsAre.cons _ _ (IntsAre.cons _ _ IntsAre.nil))) | exact IntsAre.cons _ _ (IntsAre.cons _ _ IntsAre.nil) | exact IntsAre.cons _ _ IntsAre.nil); (case mqkbar => (repeat (first | exact fnil | refine fcons ⟨by omega, by omega⟩ ?_))); (case mqkban => exact Nat.le_of_ble_eq_true rfl); k_whole); intro _ _ _ _ _ _)
  k_with "call type:list" => (k_here; (with_reducible show wpAny _ _ (call (Value.type "list") [Value.bytes _ _]) _ _ _); first
  | (k_dflt (refine' list_bytes1 ?mqk1 ?mqk2 ?mqk3 ?mqk4 ?_; (case mqk1 => k_asm); (case mqk2 => k_asm); (case mqk3 => rfl); (case mqk4 => assumption)); intro _ _ _ _ _ _ _ l1; (try k_lt l1); (try (revert l1; intro _)))
  | (k_dflt (refine' list_bytes2 ?mqk1 ?mqk2 ?mqk3 ?mqk4 ?_; (case mqk1 => k_asm); (case mqk2 => k_asm); (case mqk3 => rfl); (case mqk4 => assumption)); intro _ _ _ _ _ _ _ _ l1; (try k_lt l1); (try (revert l1; intro _))))
  k_with "exec For Name BinOp cons nil" => (k_here; (with_unfolding_all refine' For_invVF ?mqkF ?mqk1 ?mqk2 ?_; (case mqkF => k_asm); (case mqk1 => exact rfl); (case mqk2 => exact rfl); k_whole))
  k_with "mine:env" => ((show (let AA := _; let EE := _; wpAny _ AA (execs _ EE) _ _ _)); intro AA EE)
  k_with "mine:let" => ((rename Fr _ _ _ _ => lF'); refine fr_let lF' ?_; clear lF'; intro _ _)
  k_with "storeName" => (k_here; k_dflt (refine' storeM ?mqF ?mqN ?_ ?mqhk ?mqhx; (case mqF => k_asm); (case mqN => k_asm); (case mqhk => exact rfl); (case mqhx => exact rfl); k_whole); intro _ _ _ _ _; (try k_sweep))
  k_with "mine:turn" => (walk_at "mine:let"; (show wpAny _ _ _ _ _ _); k_fold)
  k_with "mine:led" => (intro p hp; revert p; repeat (first | exact fnil | refine fcons rfl ?_))
  k_with "mine:same" => ((try dsimp (config := { zetaDelta := true }) only); ksw_same)
  k_with "mine:used" => (intro _ _ _ _ _ _ r9; (obtain ⟨_, e9⟩ := r9); subst e9; (try dsimp only); (try k_fold))
  k_with "mine:usedN" => (intro _ _ _ _ _ _ _ _ _ _; (try dsimp only); (try k_fold))
  k_with "mine:forG" => (k_dflt (refine' For_G ?mqkF ?_; (case mqkF => k_asm)))
  k_with "mine:forT" => (k_dflt (refine' For_T ?mqkF ?_; (case mqkF => k_asm)))
  k_with "call type:type" => (k_here; (with_reducible show wpAny _ _ (call _ [Value.bytes _ _]) _ _ _); refine call_type_of (Tx := "bytes") rfl (by decide +kernel) ?_)
  k_with "pyIter bytes" => ((with_reducible show wpAny _ _ (pyIter (Value.bytes _ _)) (fun it s₂ => LoopAtV _ _ _ _ _ _ _ _ _ it s₂) _ _); k_here; k_bytesUnr)
  k_with "subscriptTail" => (k_here; (with_reducible show wpAny _ _ (subscriptTail (Expr.Name "_B64" _) _ (Value.bytes _ _) (Value.int _ _)) _ _ _); with_unfolding_all refine' b64_item ?mqh0 ?mqh1 (fun _ _ _ _ => ?_) ?mqhs ?mqht; (case mqh0 => first | assumption | exact Nat.le_trans (by assumption) (by decide) | omega); (case mqh1 => first | assumption | exact Nat.le_trans (by assumption) (by decide) | omega); (case mqhs => with_unfolding_all rfl); (case mqht => intro _; with_unfolding_all rfl))
  k_with "binaryOp RShift int int" => (k_here; first
  | (refine' rsh2 ?mqhn ?_; (case mqhn => first | assumption | exact Nat.le_trans (by assumption) (by decide) | omega))
  | (refine' rsh4 ?mqhn ?_; (case mqhn => first | assumption | exact Nat.le_trans (by assumption) (by decide) | omega)))
  k_with "binaryOp LShift int int" => (k_here; first
  | (refine' lsh_ 8 256 ?mqhn ?mqhk ?mqhP ?mqh0 ?mqh1 ?_; (case mqhn => decide); (case mqhk => decide); (case mqhP => decide); (case mqh0 => first | assumption | exact Nat.le_trans (by assumption) (by decide) | omega); (case mqh1 => first | assumption | exact Nat.le_trans (by assumption) (by decide) | omega))
  | (refine' lsh_ 6 64 ?mqhn ?mqhk ?mqhP ?mqh0 ?mqh1 ?_; (case mqhn => decide); (case mqhk => decide); (case mqhP => decide); (case mqh0 => first | assumption | exact Nat.le_trans (by assumption) (by decide) | omega); (case mqh1 => first | assumption | exact Nat.le_trans (by assumption) (by decide) | omega))
  | (refine' lsh_ 4 16 ?mqhn ?mqhk ?mqhP ?mqh0 ?mqh1 ?_; (case mqhn => decide); (case mqhk => decide); (case mqhP => decide); (case mqh0 => first | assumption | exact Nat.le_trans (by assumption) (by decide) | omega); (case mqh1 => first | assumption | exact Nat.le_trans (by assumption) (by decide) | omega))
  | (refine' lsh_ 2 4 ?mqhn ?mqhk ?mqhP ?mqh0 ?mqh1 ?_; (case mqhn => decide); (case mqhk => decide); (case mqhP => decide); (case mqh0 => first | assumption | exact Nat.le_trans (by assumption) (by decide) | omega); (case mqh1 => first | assumption | exact Nat.le_trans (by assumption) (by decide) | omega)))
  k_with "binaryOp BitOr int int" => (k_here; first
  | (refine' or_ 8 256 ?mqhP ?mqh0 ?mqh1 ?mqh2 ?_; (case mqhP => decide); (case mqh0 => first | assumption | exact Nat.le_trans (by assumption) (by decide) | omega); (case mqh1 => first | assumption | exact Nat.le_trans (by assumption) (by decide) | omega); (case mqh2 => first | assumption | exact Nat.le_trans (by assumption) (by decide) | omega))
  | (refine' or_ 6 64 ?mqhP ?mqh0 ?mqh1 ?mqh2 ?_; (case mqhP => decide); (case mqh0 => first | assumption | exact Nat.le_trans (by assumption) (by decide) | omega); (case mqh1 => first | assumption | exact Nat.le_trans (by assumption) (by decide) | omega); (case mqh2 => first | assumption | exact Nat.le_trans (by assumption) (by decide) | omega))
  | (refine' or_ 4 16 ?mqhP ?mqh0 ?mqh1 ?mqh2 ?_; (case mqhP => decide); (case mqh0 => first | assumption | exact Nat.le_trans (by assumption) (by decide) | omega); (case mqh1 => first | assumption | exact Nat.le_trans (by assumption) (by decide) | omega); (case mqh2 => first | assumption | exact Nat.le_trans (by assumption) (by decide) | omega))
  | (refine' or_ 2 4 ?mqhP ?mqh0 ?mqh1 ?mqh2 ?_; (case mqhP => decide); (case mqh0 => first | assumption | exact Nat.le_trans (by assumption) (by decide) | omega); (case mqh1 => first | assumption | exact Nat.le_trans (by assumption) (by decide) | omega); (case mqh2 => first | assumption | exact Nat.le_trans (by assumption) (by decide) | omega)))
  k_with "binaryOp BitAnd int int" => (k_here; first
  | refine and65535 ?_
  | refine and63 ?_
  | refine and15 ?_
  | refine and3 ?_)
  k_with "getMethod bytes" => (k_here; (with_reducible refine method_translate ?_))
  k_with "call builtin:bytes.translate" => (k_here; first
  | (refine' call_urlenc ?mqh1 ?mqh2 (fun _ _ => ?_); (case mqh1 => assumption); (case mqh2 => first | kernel_rfl | decide +kernel))
  | (refine' call_urldec ?mqh1 ?mqh2 (fun _ _ => ?_); (case mqh1 => assumption); (case mqh2 => first | kernel_rfl | decide +kernel)))
  k_with "call type:str" => (k_here; (with_reducible show wpAny _ _ (call (Value.type "str") [Value.bytes _ _, Value.str _ _]) _ _ _); first
  | (refine' call_strword0 ?mqh1 (fun _ _ => ?_); (case mqh1 => assumption))
  | (refine' call_strword ?mqh1 (fun _ _ => ?_); (case mqh1 => assumption)))
  k_with "getMethod str" => (k_here; first | with_reducible refine m_encode ?_ | with_reducible refine m_translate ?_)
  k_with "call builtin:str.encode" => (k_here; refine' call_encword ?mqh1 (fun _ _ => ?_); (case mqh1 => assumption))
  k_with "binaryOp Add str str" => (k_here; refine' add_SS ?mqhx ?mqhy ?mqhsz (fun _ _ => ?_); (case mqhx => first | rfl | exact ofS _ | exact S_of _); (case mqhy => first | rfl | exact ofS _ | exact S_of _); (case mqhsz => ((try simp only [List.length_append, List.length_cons, List.length_nil, List.length_replicate]); omega)))
  k_with "binaryOp Mult str int" => (k_here; refine' mul_S ?mqhx ?mqh0 ?mqh1 (fun _ _ => ?_); (case mqhx => exact ofS _); (case mqh0 => first | assumption | exact Nat.le_trans (by assumption) (by decide) | omega); (case mqh1 => first | assumption | exact Nat.le_trans (by assumption) (by decide) | omega))
  k_with "subscriptTail" => (k_here; (with_reducible show wpAny _ _ (subscriptTail _ _ (Value.str _ _) (Value.int _ _)) _ _ _); with_unfolding_all refine' item_S ?mqhx ?mqh0 ?mqh1 ?mqh2 (fun _ _ => ?_) ?mqhs ?mqht; (case mqhx => first | rfl | exact ofS _ | exact S_of _); (case mqh0 => ktr_rel); (case mqh1 => ktr_rel); (case mqh2 => ktr_rel); (case mqhs => with_unfolding_all rfl); (case mqht => intro _; with_unfolding_all rfl))
  k_with "eval Constant int" => (with_reducible refine const_i ?_)
  k_with "binaryOp Add int int" => (with_reducible refine add_i ?_)
  k_with "binaryOp Sub int int" => (with_reducible refine sub_i ?_)
  trivial
theorem kw_Jx24 : True := by
  k_with "compareOp Eq int int" => (k_here; first | (refine' eqi_no ?mqh ?_; (case mqh => assumption)) | (refine' eqi_yes ?mqh ?_; (case mqh => assumption)))
  trivial
theorem kw_j5 : True := by
  k_with "call ref" => (k_here; (with_reducible show wpAny _ _ (call (Value.ref 65) _ _) _ _ _); k_dflt (refine' Spec.use (c_fromstr _ _ (by assumption) _ _) ?mqk1 ?mqk2 ?mqk3 ?mqk4 ?mqk5 ?mqkK ?mqkd ?mqku ?mqkp ?_; (case mqk1 => k_asm); (case mqk2 => k_asm); (case mqk3 => k_asm); (case mqk4 => k_asm); (case mqk5 => k_asm); (case mqkK => first | exact rfl | assumption); (case mqkd => ktr_room); (case mqku => ktr_units); (case mqkp => exact trivial)); walk_at "mine:used")
  trivial

theorem kw_j6 : True := by
  k_with "call ref" => (k_here; (with_reducible show wpAny _ _ (call (Value.ref 65) _ _) _ _ _); k_dflt (refine' Spec.use (c_frombytes _ _ _) ?mqk1 ?mqk2 ?mqk3 ?mqk4 ?mqk5 ?mqkK ?mqkd ?mqku ?mqkp ?_; (case mqk1 => k_asm); (case mqk2 => k_asm); (case mqk3 => k_asm); (case mqk4 => k_asm); (case mqk5 => k_asm); (case mqkK => first | exact rfl | assumption); (case mqkd => ktr_room); (case mqku => ktr_units); (case mqkp => exact trivial)); walk_at "mine:used")
  trivial

theorem kw_j7 : True := by
  k_with "call ref" => (k_here; (with_reducible show wpAny _ _ (call (Value.ref 114) _ _) _ _ _); k_dflt (refine' Spec.use (c_a2b _ _ (by assumption) _) ?mqk1 ?mqk2 ?mqk3 ?mqk4 ?mqk5 ?mqkK ?mqkd ?mqku ?mqkp ?_; (case mqk1 => k_asm); (case mqk2 => k_asm); (case mqk3 => k_asm); (case mqk4 => k_asm); (case mqk5 => k_asm); (case mqkK => first | exact rfl | assumption); (case mqkd => ktr_room); (case mqku => ktr_units); (case mqkp => exact trivial)); walk_at "mine:used")
  trivial

theorem c_b64dec (w : World) (l : List Int) (hl : l ∈ rowTab) (t : Tok) :
   Spec w 7 138 [.bytes (byteArr (encL l)) t] [] (fun _ => True) (fun _ _ v => ∃ t, v = .bytes (byteArr l) t) := by
  unfold Spec
  k_fill
  intros; rename_i hret
  refine wpAny_call ?_
  k_dflt cell_enter
  rename _ = Shared.heap _ => hgg
  k_steps
  exact hret _ _ _ (by rw [← hgg]; assumption) ⟨_, rfl⟩
theorem c_b64decS (w : World) (l : List Int) (hl : l ∈ rowTab) (t : Tok) :
   Spec w 7 138 [.str (wordS l false) t] [] (fun _ => True) (fun _ _ v => ∃ t, v = .bytes (byteArr l) t) := by
  unfold Spec
  k_fill
  intros; rename_i hret
  refine wpAny_call ?_
  k_dflt cell_enter
  rename _ = Shared.heap _ => hgg
  k_steps
  exact hret _ _ _ (by rw [← hgg]; assumption) ⟨_, rfl⟩
theorem kw_j8 : True := by
  k_with "call ref" => (k_here; (with_reducible show wpAny _ _ (call (Value.ref 138) _ _) _ _ _); k_dflt (refine' Spec.use (c_b64dec _ _ (by assumption) _) ?mqk1 ?mqk2 ?mqk3 ?mqk4 ?mqk5 ?mqkK ?mqkd ?mqku ?mqkp ?_; (case mqk1 => k_asm); (case mqk2 => k_asm); (case mqk3 => k_asm); (case mqk4 => k_asm); (case mqk5 => k_asm); (case mqkK => first | exact rfl | assumption); (case mqkd => ktr_room); (case mqku => ktr_units); (case mqkp => exact trivial)); walk_at "mine:used")
  trivial

theorem c_urldec (w : World) (l : List Int) (hl : l ∈ rowTab) (t : Tok) :
   Spec w 9 152 [.str (wordS l true) t] [] (fun _ => True) (fun _ _ v => ∃ t, v = .bytes (byteArr l) t) := by
  unfold Spec
  k_fill
  intros; rename_i hret
  refine wpAny_call ?_
  k_dflt cell_enter
  rename _ = Shared.heap _ => hgg
  k_steps
  exact hret _ _ _ (by rw [← hgg]; assumption) ⟨_, rfl⟩
theorem kw_j9 : True := by
  k_with "call ref" => (k_here; (with_reducible show wpAny _ _ (call (Value.ref 138) _ _) _ _ _); k_dflt (refine' Spec.use (c_b64decS _ _ (by assumption) _) ?mqk1 ?mqk2 ?mqk3 ?mqk4 ?mqk5 ?mqkK ?mqkd ?mqku ?mqkp ?_; (case mqk1 => k_asm); (case mqk2 => k_asm); (case mqk3 => k_asm); (case mqk4 => k_asm); (case mqk5 => k_asm); (case mqkK => first | exact rfl | assumption); (case mqkd => ktr_room); (case mqku => ktr_units); (case mqkp => exact trivial)); walk_at "mine:used")
  trivial

theorem kw_j10 : True := by
  k_with "call ref" => (k_here; (with_reducible show wpAny _ _ (call (Value.ref 152) _ _) _ _ _); k_dflt (refine' Spec.use (c_urldec _ _ (by assumption) _) ?mqk1 ?mqk2 ?mqk3 ?mqk4 ?mqk5 ?mqkK ?mqkd ?mqku ?mqkp ?_; (case mqk1 => k_asm); (case mqk2 => k_asm); (case mqk3 => k_asm); (case mqk4 => k_asm); (case mqk5 => k_asm); (case mqkK => first | exact rfl | assumption); (case mqkd => ktr_room); (case mqku => ktr_units); (case mqkp => exact trivial)); walk_at "mine:used")
  trivial

theorem c_back1 (w : World) (l : List Int) (hl : l ∈ rowTab) (k : Int) (hk : k % 2 = 1) (t u : Tok) :
   Spec w 11 202 [.str (wordS l true) t, .int k u] [] (fun _ => True) (fun _ _ v => ∃ t, v = .bytes (byteArr l) t) := by
  have hk' : k.fmod 2 = 1 := by rw [Int.fmod_eq_emod_of_nonneg k (by decide)]; exact hk
  unfold Spec
  k_fill
  intros; rename_i hret
  refine wpAny_call ?_
  k_dflt cell_enter
  rename _ = Shared.heap _ => hgg
  k_steps
  exact hret _ _ _ (by rw [← hgg]; assumption) ⟨_, rfl⟩
theorem c_back0 (w : World) (l : List Int) (hl : l ∈ rowTab) (k : Int) (hk : ¬ k % 2 = 1) (t u : Tok) :
   Spec w 11 202 [.str (wordS l false) t, .int k u] [] (fun _ => True) (fun _ _ v => ∃ t, v = .bytes (byteArr l) t) := by
  have hk' : ¬ k.fmod 2 = 1 := by rw [Int.fmod_eq_emod_of_nonneg k (by decide)]; exact hk
  unfold Spec
  k_fill
  intros; rename_i hret
  refine wpAny_call ?_
  k_dflt cell_enter
  rename _ = Shared.heap _ => hgg
  k_steps
  exact hret _ _ _ (by rw [← hgg]; assumption) ⟨_, rfl⟩
theorem c_back (w : World) (l : List Int) (hl : l ∈ rowTab) (k : Int) (t u : Tok) :
   Spec w 11 202 [.str (wordS l (par k)) t, .int k u] [] (fun _ => True) (fun _ _ v => ∃ t, v = .bytes (byteArr l) t) := by
  by_cases h : k % 2 = 1
  · rw [show par k = true from decide_eq_true h]; exact c_back1 w l hl k h t u
  · rw [show par k = false from decide_eq_false h]; exact c_back0 w l hl k h t u
end
section
theorem kz_Esc : True := by
  k_with_none
  k_with "mine:room" => (first | exact Room.lt (by assumption) | exact Room.lt (Room.deep (k := 1) (e := 0) (by assumption) (by decide)) | exact Room.lt (Room.deep (k := 1) (e := 0) (Room.deep (k := 1) (e := 1) (by assumption) (by decide)) (by decide)) | exact Room.deep (by assumption) (by decide) | ((with_reducible show Room _ _); unfold Room; decide) | ((with_reducible show Room _ _); unfold Room; simp only [depth_under_make, depth_under_kw, depth_in1, depth_deeper, depth_caller]; decide))
  k_with "mine:units" => (first | exact Units.deep (by assumption) (by decide) | exact Units.deep2 (by assumption) (by decide) | ((with_reducible show Units _ _); unfold Units; ktr_units))
  k_with "mine:all1" => (first | exact fnil | (refine fcons (by with_unfolding_all rfl) ?_; walk_at "mine:all1"))
  k_with "mine:allin" => (first | exact fnil | (refine fcons (by k_memK) ?_; walk_at "mine:allin") | (intro p9 h9; kst_mem))
  k_with "mine:all" => (first | exact fnil | (refine' fcons ?mqfa ?mqfb; (case mqfa => k_ne); (case mqfb => walk_at "mine:all")))
  k_with "mine:cell" => (first
  | (refine' callP ?mqk1 ?mqk2 ?mqk3 ?mqk5 ?mqkA ?mqkF ?mqkK ?mqk6 ?mqk7 ?mqk8 ?mqk9 ?mqkB ?_ ?mqc2 ?mqc3 ?mqc4 ?mqc5; (case mqkA => exact rfl); (case mqkF => exact rfl); (case mqkK => assumption); (case mqk1 => k_asm); (case mqk2 => k_asm); (case mqk3 => k_asm); (case mqk5 => k_asm); (case mqk6 => k_is); (case mqk7 => k_is); (case mqk8 => ktr_room); (case mqk9 => first | exact BindsTo.of_eq rfl | exact binds_K (by k_in) rfl (by k_is) rfl rfl rfl); (case mqc5 => decide); (case mqkB => exact locs rfl); (case mqc2 => exact rfl); (case mqc3 => exact rfl); (case mqc4 => exact rfl); k_whole; intro _ _ _ _ _ _ _ _ _ _; walk_at "mine:let"; (try dsimp only); (try k_fold); (try walk_at "mine:env"))
  | (refine' callPC ?mqk1 ?mqk2 ?mqk3 ?mqk5 ?mqkA ?mqkF ?mqkK ?mqk6 ?mqk7 ?mqk8 ?mqk9 ?mqkB ?mqkD ?_ ?mqc2 ?mqc3 ?mqc4; (case mqkA => exact rfl); (case mqkF => exact rfl); (case mqkK => assumption); (case mqk1 => k_asm); (case mqk2 => k_asm); (case mqk3 => k_asm); (case mqk5 => k_asm); (case mqk6 => k_is); (case mqk7 => k_is); (case mqk8 => ktr_room); (case mqk9 => first | exact BindsTo.of_eq rfl | exact binds_K (by k_in) rfl (by k_is) rfl rfl rfl); (case mqkB => exact rfl); (case mqkD => decide +kernel); (case mqc2 => exact rfl); (case mqc3 => exact rfl); (case mqc4 => exact rfl); k_whole; intro _ _ _ _ _ _ _ _ N' Y' _ _ _; walk_at "mine:let"; k_cells Y'; (try simp only [List.cons_append, List.nil_append] at N'); (try (revert N'; intro _)); (try dsimp only); (try k_fold); (try walk_at "mine:env")))
  k_with "call type:bytes" => (k_here; (with_reducible show wpAny _ _ (call (Value.type "bytes") [Value.ref _]) _ _ _); k_dflt (refine' KBa.make_K ?mqkbaF ?mqkbaN ?mqkbah ?mqkbal ?mqkbai ?mqkbar ?mqkban ?_; (case mqkbaF => k_asm); (case mqkbaN => k_asm); (case mqkbah => rfl); (case mqkbal => exact News.isList (by k_asm) (by k_mem)); (case mqkbai => first | exact IntsAre.cons _ _ (IntsAre.cons _ _ (IntsAre.cons _ _ (IntsAre.cons _ _ IntsAre.nil))) | exact IntsAre.cons _ _ (IntsAre.cons _ _ IntsAre.nil) | exact IntsAre.cons _ _ IntsAre.nil); (case mqkbar => (repeat (first | exact fnil | refine fcons ⟨by omega, by omega⟩ ?_))); (case mqkban => exact Nat.le_of_ble_eq_true rfl); k_whole); intro _ _ _ _ _ _)
  k_with "call type:list" => (k_here; (with_reducible show wpAny _ _ (call (Value.type "list") [Value.bytes _ _]) _ _ _); first
  | (k_dflt (refine' list_bytes1 ?mqk1 ?mqk2 ?mqk3 ?mqk4 ?_; (case mqk1 => k_asm); (case mqk2 => k_asm); (case mqk3 => rfl); (case mqk4 => assumption)); intro _ _ _ _ _ _ _ l1; (try k_lt l1); (try (revert l1; intro _)))
  | (k_dflt (refine' list_bytes2 ?mqk1 ?mqk2 ?mqk3 ?mqk4 ?_; (case mqk1 => k_asm); (case mqk2 => k_asm); (case mqk3 => rfl); (case mqk4 => assumption)); intro _ _ _ _ _ _ _ _ l1; (try k_lt l1); (try (revert l1; intro _))))
  k_with "exec For Name BinOp cons nil" => (k_here; (with_unfolding_all refine' For_invVF ?mqkF ?mqk1 ?mqk2 ?_; (case mqkF => k_asm); (case mqk1 => exact rfl); (case mqk2 => exact rfl); k_whole))
  k_with "mine:env" => ((show (let AA := _; let EE := _; wpAny _ AA (execs _ EE) _ _ _)); intro AA EE)
  k_with "mine:let" => ((rename Fr _ _ _ _ => lF'); refine fr_let lF' ?_; clear lF'; intro _ _)
  k_with "storeName" => (k_here; k_dflt (refine' storeM ?mqF ?mqN ?_ ?mqhk ?mqhx; (case mqF => k_asm); (case mqN => k_asm); (case mqhk => exact rfl); (case mqhx => exact rfl); k_whole); intro _ _ _ _ _; (try k_sweep))
  k_with "mine:turn" => (walk_at "mine:let"; (show wpAny _ _ _ _ _ _); k_fold)
  k_with "mine:led" => (intro p hp; revert p; repeat (first | exact fnil | refine fcons rfl ?_))
  k_with "mine:same" => ((try dsimp (config := { zetaDelta := true }) only); ksw_same)
  k_with "mine:used" => (intro _ _ _ _ _ _ r9; (obtain ⟨_, e9⟩ := r9); subst e9; (try dsimp only); (try k_fold))
  k_with "mine:usedN" => (intro _ _ _ _ _ _ _ _ _ _; (try dsimp only); (try k_fold))
  k_with "mine:forG" => (k_dflt (refine' For_G ?mqkF ?_; (case mqkF => k_asm)))
  k_with "mine:forT" => (k_dflt (refine' For_T ?mqkF ?_; (case mqkF => k_asm)))
  k_with "call type:type" => (k_here; (with_reducible show wpAny _ _ (call _ [Value.bytes _ _]) _ _ _); refine call_type_of (Tx := "bytes") rfl (by decide +kernel) ?_)
  k_with "pyIter bytes" => ((with_reducible show wpAny _ _ (pyIter (Value.bytes _ _)) (fun it s₂ => LoopAtV _ _ _ _ _ _ _ _ _ it s₂) _ _); k_here; k_bytesUnr)
  k_with "subscriptTail" => (k_here; (with_reducible show wpAny _ _ (subscriptTail (Expr.Name "_B64" _) _ (Value.bytes _ _) (Value.int _ _)) _ _ _); with_unfolding_all refine' b64_item ?mqh0 ?mqh1 (fun _ _ _ _ => ?_) ?mqhs ?mqht; (case mqh0 => first | assumption | exact Nat.le_trans (by assumption) (by decide) | omega); (case mqh1 => first | assumption | exact Nat.le_trans (by assumption) (by decide) | omega); (case mqhs => with_unfolding_all rfl); (case mqht => intro _; with_unfolding_all rfl))
  k_with "binaryOp RShift int int" => (k_here; first
  | (refine' rsh2 ?mqhn ?_; (case mqhn => first | assumption | exact Nat.le_trans (by assumption) (by decide) | omega))
  | (refine' rsh4 ?mqhn ?_; (case mqhn => first | assumption | exact Nat.le_trans (by assumption) (by decide) | omega)))
  k_with "binaryOp LShift int int" => (k_here; first
  | (refine' lsh_ 8 256 ?mqhn ?mqhk ?mqhP ?mqh0 ?mqh1 ?_; (case mqhn => decide); (case mqhk => decide); (case mqhP => decide); (case mqh0 => first | assumption | exact Nat.le_trans (by assumption) (by decide) | omega); (case mqh1 => first | assumption | exact Nat.le_trans (by assumption) (by decide) | omega))
  | (refine' lsh_ 6 64 ?mqhn ?mqhk ?mqhP ?mqh0 ?mqh1 ?_; (case mqhn => decide); (case mqhk => decide); (case mqhP => decide); (case mqh0 => first | assumption | exact Nat.le_trans (by assumption) (by decide) | omega); (case mqh1 => first | assumption | exact Nat.le_trans (by assumption) (by decide) | omega))
  | (refine' lsh_ 4 16 ?mqhn ?mqhk ?mqhP ?mqh0 ?mqh1 ?_; (case mqhn => decide); (case mqhk => decide); (case mqhP => decide); (case mqh0 => first | assumption | exact Nat.le_trans (by assumption) (by decide) | omega); (case mqh1 => first | assumption | exact Nat.le_trans (by assumption) (by decide) | omega))
  | (refine' lsh_ 2 4 ?mqhn ?mqhk ?mqhP ?mqh0 ?mqh1 ?_; (case mqhn => decide); (case mqhk => decide); (case mqhP => decide); (case mqh0 => first | assumption | exact Nat.le_trans (by assumption) (by decide) | omega); (case mqh1 => first | assumption | exact Nat.le_trans (by assumption) (by decide) | omega)))
  k_with "binaryOp BitOr int int" => (k_here; first
  | (refine' or_ 8 256 ?mqhP ?mqh0 ?mqh1 ?mqh2 ?_; (case mqhP => decide); (case mqh0 => first | assumption | exact Nat.le_trans (by assumption) (by decide) | omega); (case mqh1 => first | assumption | exact Nat.le_trans (by assumption) (by decide) | omega); (case mqh2 => first | assumption | exact Nat.le_trans (by assumption) (by decide) | omega))
  | (refine' or_ 6 64 ?mqhP ?mqh0 ?mqh1 ?mqh2 ?_; (case mqhP => decide); (case mqh0 => first | assumption | exact Nat.le_trans (by assumption) (by decide) | omega); (case mqh1 => first | assumption | exact Nat.le_trans (by assumption) (by decide) | omega); (case mqh2 => first | assumption | exact Nat.le_trans (by assumption) (by decide) | omega))
  | (refine' or_ 4 16 ?mqhP ?mqh0 ?mqh1 ?mqh2 ?_; (case mqhP => decide); (case mqh0 => first | assumption | exact Nat.le_trans (by assumption) (by decide) | omega); (case mqh1 => first | assumption | exact Nat.le_trans (by assumption) (by decide) | omega); (case mqh2 => first | assumption | exact Nat.le_trans (by assumption) (by decide) | omega))
  | (refine' or_ 2 4 ?mqhP ?mqh0 ?mqh1 ?mqh2 ?_; (case mqhP => decide); (case mqh0 => first | assumption | exact Nat.le_trans (by assumption) (by decide) | omega); (case mqh1 => first | assumption | exact Nat.le_trans (by assumption) (by decide) | omega); (case mqh2 => first | assumption | exact Nat.le_trans (by assumption) (by decide) | omega)))
  k_with "binaryOp BitAnd int int" => (k_here; first
  | refine and65535 ?_
  | refine and63 ?_
  | refine and15 ?_
  | refine and3 ?_)
  k_with "getMethod bytes" => (k_here; (with_reducible refine method_translate ?_))
  k_with "call builtin:bytes.translate" => (k_here; first
  | (refine' call_urlenc ?mqh1 ?mqh2 (fun _ _ => ?_); (case mqh1 => assumption); (case mqh2 => first | kernel_rfl | decide +kernel))
  | (refine' call_urldec ?mqh1 ?mqh2 (fun _ _ => ?_); (case mqh1 => assumption); (case mqh2 => first | kernel_rfl | decide +kernel)))
  k_with "call type:str" => (k_here; (with_reducible show wpAny _ _ (call (Value.type "str") [Value.bytes _ _, Value.str _ _]) _ _ _); first
  | (refine' call_strword0 ?mqh1 (fun _ _ => ?_); (case mqh1 => assumption))
  | (refine' call_strword ?mqh1 (fun _ _ => ?_); (case mqh1 => assumption)))
  k_with "getMethod str" => (k_here; first | with_reducible refine m_encode ?_ | with_reducible refine m_translate ?_)
  k_with "call builtin:str.encode" => (k_here; refine' call_encword ?mqh1 (fun _ _ => ?_); (case mqh1 => assumption))
  k_with "binaryOp Add str str" => (k_here; refine' add_SS ?mqhx ?mqhy ?mqhsz (fun _ _ => ?_); (case mqhx => first | rfl | exact ofS _ | exact S_of _); (case mqhy => first | rfl | exact ofS _ | exact S_of _); (case mqhsz => ((try simp only [List.length_append, List.length_cons, List.length_nil, List.length_replicate]); omega)))
  k_with "binaryOp Mult str int" => (k_here; refine' mul_S ?mqhx ?mqh0 ?mqh1 (fun _ _ => ?_); (case mqhx => exact ofS _); (case mqh0 => first | assumption | exact Nat.le_trans (by assumption) (by decide) | omega); (case mqh1 => first | assumption | exact Nat.le_trans (by assumption) (by decide) | omega))
  k_with "subscriptTail" => (k_here; (with_reducible show wpAny _ _ (subscriptTail _ _ (Value.str _ _) (Value.int _ _)) _ _ _); with_unfolding_all refine' item_S ?mqhx ?mqh0 ?mqh1 ?mqh2 (fun _ _ => ?_) ?mqhs ?mqht; (case mqhx => first | rfl | exact ofS _ | exact S_of _); (case mqh0 => ktr_rel); (case mqh1 => ktr_rel); (case mqh2 => ktr_rel); (case mqhs => with_unfolding_all rfl); (case mqht => intro _; with_unfolding_all rfl))
  k_with "eval Constant int" => (with_reducible refine const_i ?_)
  k_with "binaryOp Add int int" => (with_reducible refine add_i ?_)
  k_with "binaryOp Sub int int" => (with_reducible refine sub_i ?_)
  trivial
open Builtin Builtin.Str
noncomputable def specials : List Nat := [40, 41, 91, 93, 123, 125, 63, 42, 43, 45, 124, 94, 36, 92, 46, 38, 126, 35, 32, 9, 10, 13, 11, 12]
noncomputable def esc1 (c : Nat) : List Nat := if specials.contains c then [92, c] else [c]
noncomputable def esc (l : List Nat) : List Nat := l.flatMap esc1
noncomputable def tab40 (w : World) : Array DictEntry := match ((Mine.heapK w.params).lookup 40) with
  | some ⟨_, _, .dict es _, _⟩ => es
  | _ => #[]
noncomputable def okv (c : Nat) : Option Value → Bool
  | some (.str x _) => specials.contains c && x.cps.toList == [92, c]
  | none => !specials.contains c
  | _ => false
theorem tab40_ok (w : World) : ((List.range 128).all fun c => okv c (findBy Value.isInt (tab40 w) (c : Int))) = true := by kernel_rfl!
noncomputable def keyOk (e : DictEntry) : Bool := match e.key with
  | .int k _ => e.hash == hashInt k
  | _ => false
theorem tab40_keys (w : World) : (tab40 w).toList.all keyOk = true := by kernel_rfl!
theorem tab40_obj (w : World) : ∃ o ep, (Mine.heapK w.params).lookup 40 = some o ∧ o.ExactDict ∧ o.data = .dict (tab40 w) ep := ⟨_, _, rfl, ⟨rfl, rfl, rfl⟩, rfl⟩
theorem tab40_map {prog : Program} {w : World} {h : Heap} (X : (Mine.heapK w.params).In h) : h.MapOf (intKind prog w) 40 (fun k => findBy Value.isInt (tab40 w) k) := by
  obtain ⟨o, ep, e, x, d⟩ := tab40_obj w
  refine ⟨o, tab40 w, ep, X _ _ e, x, d, fun e he => ?_, fun _ => rfl⟩
  have := List.all_eq_true.mp (tab40_keys w) e (Array.mem_toList_iff.mpr he)
  unfold keyOk at this
  split at this
  · rename_i k t hk
    exact ⟨k, by rw [hk]; exact decide_eq_true rfl, eq_of_beq this⟩
  · exact absurd this Bool.false_ne_true
section
variable {prog : Program} {w : World} {A : Around} {E : Value → Shared → Prop} {s : Shared}
theorem look40 {c : Nat} {Q : Mapped → Shared → Prop} (hh : A.handled = none) (X : (Mine.heapK w.params).In s.heap) (hc : c < 128)
    (h : ∀ h' tk, Kept s.heap h' → Q (if specials.contains c then .text (S [92, c]) else .keep) { s with heap := h', toks := tk }) : wpAny (model prog w) A (tableLookup (.ref 40) c) Q E s := by
  have ok := List.all_eq_true.mp (tab40_ok w) c (List.mem_range.mpr hc)
  unfold tableLookup
  refine wpAny_bind (wpAny_attempt (wpAny_bind (wpAny_mkInt ?_)))
  have M := tab40_map (prog := prog) X
  cases hv : findBy Value.isInt (tab40 w) (c : Int) with
  | some v =>
    refine wpAny_getItem_of (knd := intKind prog w) (k := (c : Int)) (by exact decide_eq_true rfl) M hv ?_
    rw [hv] at ok
    cases v <;> simp only [okv, Bool.false_eq_true] at ok
    rename_i x t
    rw [Bool.and_eq_true] at ok
    rw [ok.1] at h
    have e : x = S [92, c] := by
      have := eq_of_beq ok.2
      rw [S_of x, this]
    subst e
    exact wpAny_pure (h s.heap _ (Kept.rfl _))
  | none =>
    refine wpAny_getItem_missing_of (knd := intKind prog w) (k := (c : Int)) (by exact decide_eq_true rfl) (by decide) hh M hv fun h' e ne => ?_
    rw [hv] at ok
    simp only [okv, Bool.not_eq_true'] at ok
    rw [ok] at h
    obtain ⟨ob, t, he, hc', hd⟩ := ne.there
    refine wpAny_bind (wpAny_isInstance (T := "KeyError") (b := true) ?_ (by rw [isSubtype_type]; kernel_rfl) ?_)
    · exact ⟨ob, he, hc'⟩
    · exact wpAny_bind (wpAny_rule (wpAny_pure (h h' _ ne.keeps)))
theorem foldl_S (acc : Array Nat) : ∀ ls : List (List Nat), (ls.map S).foldl (fun a p => a ++ p.cps) acc = acc ++ ls.flatten.toArray
  | [] => by simp
  | x :: r => by
    simp only [List.map_cons, List.foldl_cons, List.flatten_cons]
    rw [foldl_S _ r]
    simp [S]
theorem esc_len : ∀ l : List Nat, (esc l).length ≤ 2 * l.length
  | [] => Nat.le_refl _
  | c :: r => by
    have := esc_len r
    have h1 : (esc1 c).length ≤ 2 := by unfold esc1; split <;> simp
    show (esc1 c ++ esc r).length ≤ _
    rw [List.length_append, List.length_cons]; omega
theorem esc_snoc (l : List Nat) (x : Nat) : esc (l ++ [x]) = esc l ++ esc1 x := by unfold esc; rw [List.flatMap_append, List.flatMap_cons, List.flatMap_nil, List.append_nil]
noncomputable def TrInv (s : Shared) (l rest : List Nat) (b : List PySem.Str × Nat × Bool × List (Nat × Option Nat) × Bool) (s' : Shared) : Prop :=
  ∃ (dn : List Nat) (h : Heap) (tk : Nat), s' = { s with heap := h, toks := tk } ∧ Kept s.heap h ∧ dn ++ rest = l ∧ b.1 = (dn.map fun c => S (esc1 c)).reverse ∧ b.2.1 = (esc dn).length ∧ b.2.2.2.2 = false ∧
    ∀ c a, b.2.2.2.1.lookup c = some a → a = some c ∧ specials.contains c = false
theorem m_trans {l : List Nat} {t : Tok} {Q : Value → Shared → Prop} (hh : A.handled = none) (X : (Mine.heapK w.params).In s.heap) (hl : ∀ c ∈ l, c < 128) (hsz : l.length ≤ 10000)
    (h : ∀ h' tk t', Kept s.heap h' → Q (.str (S (esc l)) t') { s with heap := h', toks := tk }) : wpAny (model prog w) A (call (.builtin "str.translate") [.str (S l) t, .ref 40]) Q E s := by
  refine wpAny_call_entry F.slot_str_translate (typeIs_str _ _ _) F.entry_str_translate ?_ (F.args_str_translate_2 _ _)
  show wpAny _ _ (if ((S l).length == 0) = true then _ else _) _ _ s
  by_cases h0 : l = []
  · subst h0
    rw [if_pos (by rfl)]
    exact wpAny_bind (wpAny_rule (wpAny_bind (wpAny_pure (wpAny_pure ⟨_, rfl, h s.heap _ _ (Kept.rfl _)⟩))))
  · rw [if_neg (by rw [S_len]; simpa using h0)]
    refine wpAny_bind (forIn_array_ _ (TrInv s l) _ ?_ ?_ _ _ ⟨[], s.heap, s.toks, rfl, Kept.rfl _, rfl, rfl, rfl, rfl, fun c a e => nomatch e⟩)
    · rintro x rest ⟨pieces, total, fast, known, afterDrop⟩ s' ⟨dn, h1, tk, rfl, k1, e1, e2, e3, e4, kn⟩
      simp only at e2 e3 e4 kn
      subst e2 e3 e4
      have hx : x < 128 := hl x (by rw [← e1]; simp)
      have X1 : (Mine.heapK w.params).In h1 := X.keeps k1
      have hlen : (esc dn).length ≤ 20000 := by
        have : dn.length ≤ l.length := by rw [← e1]; simp
        have := esc_len dn
        omega
      dsimp only
      rw [if_neg (by unfold tooLong; rw [sizeLine_eq]; simp; omega)]
      have slow : ∀ (known : List (Nat × Option Nat)) (fast : Bool) (h2 : Heap) (tk : Nat), Kept s.heap h2 → (∀ c a, known.lookup c = some a → a = some c ∧ specials.contains c = false) →
        wpAny (model prog w) A.in1 (tableLookup (Value.ref 40) x >>= fun y => match y with
              | Mapped.keep => pure (ForInStep.yield ({ cps := #[x] } :: (dn.map fun c => S (esc1 c)).reverse, (esc dn).length + 1, fast, known, false))
              | Mapped.drop => pure (ForInStep.yield ((dn.map fun c => S (esc1 c)).reverse, (esc dn).length, fast, known, true))
              | Mapped.char d => pure (ForInStep.yield ({ cps := #[d] } :: (dn.map fun c => S (esc1 c)).reverse, (esc dn).length + 1, fast, known, false))
              | Mapped.text t => pure (ForInStep.yield (t :: (dn.map fun c => S (esc1 c)).reverse, (esc dn).length + t.length, fast, known, false)))
          (fun r s' => match r with | .yield b' => TrInv s l rest b' s' | .done b' => False) E { s with heap := h2, toks := tk } := by
        intro known fast h2 tk k2 kn
        refine wpAny_bind (look40 hh (X.keeps k2) hx fun h3 tk3 k3 => ?_)
        cases hs : specials.contains x with
        | true =>
          refine wpAny_pure ⟨dn ++ [x], h3, tk3, rfl, k2.trans k3, by simp [← e1], ?_, ?_, rfl, kn⟩
          · simp only [List.map_append, List.map_cons, List.map_nil, List.reverse_append, List.reverse_cons, List.reverse_nil, List.nil_append, List.singleton_append, esc1, hs, if_true]
          · rw [esc_snoc, List.length_append, S_len]; simp only [esc1, hs, if_true]
        | false =>
          refine wpAny_pure ⟨dn ++ [x], h3, tk3, rfl, k2.trans k3, by simp [← e1], ?_, ?_, rfl, kn⟩
          · simp only [List.map_append, List.map_cons, List.map_nil, List.reverse_append, List.reverse_cons, List.reverse_nil, List.nil_append, List.singleton_append, esc1, hs]; rfl
          · rw [esc_snoc, List.length_append]; simp only [esc1, hs]; rfl
      have step : ∀ (known : List (Nat × Option Nat)) (h2 : Heap) (tk : Nat), Kept s.heap h2 → specials.contains x = false → (∀ c a, known.lookup c = some a → a = some c ∧ specials.contains c = false) →
          TrInv s l rest ({ cps := #[x] } :: (dn.map fun c => S (esc1 c)).reverse, (esc dn).length + 1, true, known, false) { s with heap := h2, toks := tk } := by
        intro known h2 tk k2 hs kn
        refine ⟨dn ++ [x], h2, tk, rfl, k2, by simp [← e1], ?_, ?_, rfl, kn⟩
        · simp only [List.map_append, List.map_cons, List.map_nil, List.reverse_append, List.reverse_cons, List.reverse_nil, List.nil_append, List.singleton_append, esc1, hs]; rfl
        · rw [esc_snoc, List.length_append]; simp only [esc1, hs]; rfl
      cases fast with
      | false =>
        rw [if_neg (by decide)]
        refine wpAny_mono (slow known false h1 tk k1 kn) (fun r s' hr => ?_) fun _ _ e => e
        cases r with
        | done b => exact False.elim hr
        | yield b => exact hr
      | true =>
        rw [if_pos rfl]
        cases hk : known.lookup x with
        | some a =>
          obtain ⟨rfl, hs⟩ := kn x a hk
          refine wpAny_bind (wpAny_pure (wpAny_pure ?_))
          exact step known h1 tk k1 hs kn
        | none =>
          refine wpAny_bind (look40 hh X1 hx fun h2 tk2 k2 => ?_)
          cases hs : specials.contains x with
          | true =>
            refine wpAny_bind (wpAny_pure ?_)
            refine wpAny_bind (wpAny_rule ?_)
            refine wpAny_mono (slow known false h2 tk2 (k1.trans k2) kn) (fun r s' hr => ?_) fun _ _ e => e
            cases r with
            | done b => exact False.elim hr
            | yield b => exact hr
          | false =>
            refine wpAny_bind (wpAny_pure (wpAny_pure ?_))
            refine step _ h2 tk2 (k1.trans k2) hs fun c a e => ?_
            rw [List.lookup_cons] at e
            split at e
            · rename_i hc
              have hc' := eq_of_beq hc
              subst hc'
              exact ⟨(Option.some.inj e).symm, hs⟩
            · exact kn c a e
    · rintro ⟨pieces, total, fast, known, afterDrop⟩ s' ⟨dn, h1, tk, rfl, k1, e1, e2, e3, e4, kn⟩
      simp only at e2 e3 e4 kn
      subst e2 e3 e4
      rw [List.append_nil] at e1
      subst e1
      dsimp only
      have := esc_len dn
      rw [if_neg (by unfold tooLong; rw [sizeLine_eq]; simp; omega)]
      rw [List.reverse_reverse, show (dn.map fun c => S (esc1 c)) = (dn.map esc1).map S by rw [List.map_map]; rfl, foldl_S #[] (dn.map esc1)]
      refine wpAny_bind (wpAny_mkStr (wpAny_pure ⟨_, rfl, ?_⟩) ?_)
      · have e : ({ cps := #[] ++ (dn.map esc1).flatten.toArray } : PySem.Str) = S (esc dn) := by simp [S, esc, List.flatMap]
        rw [e]; exact h h1 _ _ k1
      · show (#[] ++ (dn.map esc1).flatten.toArray).size ≤ _
        rw [sizeLine_eq]
        have e : (#[] ++ (dn.map esc1).flatten.toArray).size = (esc dn).length := by simp [esc, List.flatMap]
        omega
end
theorem trK {prog : Program} {w : World} {A : Around} {E : Value → Shared → Prop} {s : Shared} {h₀ : Heap} {L : Addr} {m : Str → Option Value} {news : List (Addr × Obj)} {x : PySem.Str} {l : List Nat} {t : Tok} {Q : Value → Shared → Prop} (F : Fr h₀ L s.heap m) (N : News h₀ L s.heap news) (X : (Mine.heapK w.params).In h₀) (hh : A.handled = none) (hx : x = S l) (hl : ∀ c ∈ l, c < 128) (hsz : l.length ≤ 10000)
    (h : ∀ h' tk t', Fr h₀ L h' m → News h₀ L h' news → Kept s.heap h' → Q (.str (S (esc l)) t') { s with heap := h', toks := tk }) : wpAny (model prog w) A (call (.builtin "str.translate") [.str x t, .ref 40]) Q E s := by
  subst hx
  exact m_trans hh (X.keeps F.keep) hl hsz fun h' tk t' k => h h' tk t' (fr_kept F k) (news_kept N k) k
theorem kw_Jx25 : True := by
  k_with "call builtin:str.translate" => (k_here; k_dflt (refine' trK ?mqk1 ?mqk2 ?mqkX ?mqkh ?mqkx ?mqkl ?mqks ?_; (case mqk1 => k_asm); (case mqk2 => k_asm); (case mqkX => k_asm); (case mqkh => rfl); (case mqkx => rfl); (case mqkl => assumption); (case mqks => assumption)); intro _ _ _ _ _ _)
  trivial
theorem c_escape (w : World) (l : List Nat) (hl : ∀ c ∈ l, c < 128) (hsz : l.length ≤ 10000) (t : Tok) :
    Spec w 5 50 [.str (S l) t] [] (fun _ => True) (fun _ _ v => ∃ t, v = .str (S (esc l)) t) := by
  unfold Spec
  k_fill
  intros; rename_i hret
  refine wpAny_call ?_
  k_dflt cell_enter
  rename _ = Shared.heap _ => hgg
  k_steps
  exact hret _ _ _ (by rw [← hgg]; assumption) ⟨_, rfl⟩
end
section
theorem kz_MapL : True := by
  k_with_none
  k_with "mine:room" => (first | exact Room.lt (by assumption) | exact Room.lt (Room.deep (k := 1) (e := 0) (by assumption) (by decide)) | exact Room.lt (Room.deep (k := 1) (e := 0) (Room.deep (k := 1) (e := 1) (by assumption) (by decide)) (by decide)) | exact Room.deep (by assumption) (by decide) | ((with_reducible show Room _ _); unfold Room; decide) | ((with_reducible show Room _ _); unfold Room; simp only [depth_under_make, depth_under_kw, depth_in1, depth_deeper, depth_caller]; decide))
  k_with "mine:units" => (first | exact Units.deep (by assumption) (by decide) | exact Units.deep2 (by assumption) (by decide) | ((with_reducible show Units _ _); unfold Units; ktr_units))
  k_with "mine:all1" => (first | exact fnil | (refine fcons (by with_unfolding_all rfl) ?_; walk_at "mine:all1"))
  k_with "mine:allin" => (first | exact fnil | (refine fcons (by k_memK) ?_; walk_at "mine:allin") | (intro p9 h9; kst_mem))
  k_with "mine:all" => (first | exact fnil | (refine' fcons ?mqfa ?mqfb; (case mqfa => k_ne); (case mqfb => walk_at "mine:all")))
  k_with "mine:cell" => (first
  | (refine' callP ?mqk1 ?mqk2 ?mqk3 ?mqk5 ?mqkA ?mqkF ?mqkK ?mqk6 ?mqk7 ?mqk8 ?mqk9 ?mqkB ?_ ?mqc2 ?mqc3 ?mqc4 ?mqc5; (case mqkA => exact rfl); (case mqkF => exact rfl); (case mqkK => assumption); (case mqk1 => k_asm); (case mqk2 => k_asm); (case mqk3 => k_asm); (case mqk5 => k_asm); (case mqk6 => k_is); (case mqk7 => k_is); (case mqk8 => ktr_room); (case mqk9 => first | exact BindsTo.of_eq rfl | exact binds_K (by k_in) rfl (by k_is) rfl rfl rfl); (case mqc5 => decide); (case mqkB => exact locs rfl); (case mqc2 => exact rfl); (case mqc3 => exact rfl); (case mqc4 => exact rfl); k_whole; intro _ _ _ _ _ _ _ _ _ _; walk_at "mine:let"; (try dsimp only); (try k_fold); (try walk_at "mine:env"))
  | (refine' callPC ?mqk1 ?mqk2 ?mqk3 ?mqk5 ?mqkA ?mqkF ?mqkK ?mqk6 ?mqk7 ?mqk8 ?mqk9 ?mqkB ?mqkD ?_ ?mqc2 ?mqc3 ?mqc4; (case mqkA => exact rfl); (case mqkF => exact rfl); (case mqkK => assumption); (case mqk1 => k_asm); (case mqk2 => k_asm); (case mqk3 => k_asm); (case mqk5 => k_asm); (case mqk6 => k_is); (case mqk7 => k_is); (case mqk8 => ktr_room); (case mqk9 => first | exact BindsTo.of_eq rfl | exact binds_K (by k_in) rfl (by k_is) rfl rfl rfl); (case mqkB => exact rfl); (case mqkD => decide +kernel); (case mqc2 => exact rfl); (case mqc3 => exact rfl); (case mqc4 => exact rfl); k_whole; intro _ _ _ _ _ _ _ _ N' Y' _ _ _; walk_at "mine:let"; k_cells Y'; (try simp only [List.cons_append, List.nil_append] at N'); (try (revert N'; intro _)); (try dsimp only); (try k_fold); (try walk_at "mine:env")))
  k_with "call type:bytes" => (k_here; (with_reducible show wpAny _ _ (call (Value.type "bytes") [Value.ref _]) _ _ _); k_dflt (refine' KBa.make_K ?mqkbaF ?mqkbaN ?mqkbah ?mqkbal ?mqkbai ?mqkbar ?mqkban ?_; (case mqkbaF => k_asm); (case mqkbaN => k_asm); (case mqkbah => rfl); (case mqkbal => exact News.isList (by k_asm) (by k_mem)); (case mqkbai => first | exact IntsAre.cons _ _ (IntsAre.cons _ _ (IntsAre.cons _ _ (IntsAre.cons _ _ IntsAre.nil))) | exact IntsAre.cons _ _ (IntsAre.cons _ _ IntsAre.nil) | exact IntsAre.cons _ _ IntsAre.nil); (case mqkbar => (repeat (first | exact fnil | refine fcons ⟨by omega, by omega⟩ ?_))); (case mqkban => exact Nat.le_of_ble_eq_true rfl); k_whole); intro _ _ _ _ _ _)
  k_with "call type:list" => (k_here; (with_reducible show wpAny _ _ (call (Value.type "list") [Value.bytes _ _]) _ _ _); first
  | (k_dflt (refine' list_bytes1 ?mqk1 ?mqk2 ?mqk3 ?mqk4 ?_; (case mqk1 => k_asm); (case mqk2 => k_asm); (case mqk3 => rfl); (case mqk4 => assumption)); intro _ _ _ _ _ _ _ l1; (try k_lt l1); (try (revert l1; intro _)))
  | (k_dflt (refine' list_bytes2 ?mqk1 ?mqk2 ?mqk3 ?mqk4 ?_; (case mqk1 => k_asm); (case mqk2 => k_asm); (case mqk3 => rfl); (case mqk4 => assumption)); intro _ _ _ _ _ _ _ _ l1; (try k_lt l1); (try (revert l1; intro _))))
  k_with "exec For Name BinOp cons nil" => (k_here; (with_unfolding_all refine' For_invVF ?mqkF ?mqk1 ?mqk2 ?_; (case mqkF => k_asm); (case mqk1 => exact rfl); (case mqk2 => exact rfl); k_whole))
  k_with "mine:env" => ((show (let AA := _; let EE := _; wpAny _ AA (execs _ EE) _ _ _)); intro AA EE)
  k_with "mine:let" => ((rename Fr _ _ _ _ => lF'); refine fr_let lF' ?_; clear lF'; intro _ _)
  k_with "storeName" => (k_here; k_dflt (refine' storeM ?mqF ?mqN ?_ ?mqhk ?mqhx; (case mqF => k_asm); (case mqN => k_asm); (case mqhk => exact rfl); (case mqhx => exact rfl); k_whole); intro _ _ _ _ _; (try k_sweep))
  k_with "mine:turn" => (walk_at "mine:let"; (show wpAny _ _ _ _ _ _); k_fold)
  k_with "mine:led" => (intro p hp; revert p; repeat (first | exact fnil | refine fcons rfl ?_))
  k_with "mine:same" => ((try dsimp (config := { zetaDelta := true }) only); ksw_same)
  k_with "mine:used" => (intro _ _ _ _ _ _ r9; (obtain ⟨_, e9⟩ := r9); subst e9; (try dsimp only); (try k_fold))
  k_with "mine:usedN" => (intro _ _ _ _ _ _ _ _ _ _; (try dsimp only); (try k_fold))
  k_with "mine:forG" => (k_dflt (refine' For_G ?mqkF ?_; (case mqkF => k_asm)))
  k_with "mine:forT" => (k_dflt (refine' For_T ?mqkF ?_; (case mqkF => k_asm)))
  k_with "call type:type" => (k_here; (with_reducible show wpAny _ _ (call _ [Value.bytes _ _]) _ _ _); refine call_type_of (Tx := "bytes") rfl (by decide +kernel) ?_)
  k_with "pyIter bytes" => ((with_reducible show wpAny _ _ (pyIter (Value.bytes _ _)) (fun it s₂ => LoopAtV _ _ _ _ _ _ _ _ _ it s₂) _ _); k_here; k_bytesUnr)
  k_with "subscriptTail" => (k_here; (with_reducible show wpAny _ _ (subscriptTail (Expr.Name "_B64" _) _ (Value.bytes _ _) (Value.int _ _)) _ _ _); with_unfolding_all refine' b64_item ?mqh0 ?mqh1 (fun _ _ _ _ => ?_) ?mqhs ?mqht; (case mqh0 => first | assumption | exact Nat.le_trans (by assumption) (by decide) | omega); (case mqh1 => first | assumption | exact Nat.le_trans (by assumption) (by decide) | omega); (case mqhs => with_unfolding_all rfl); (case mqht => intro _; with_unfolding_all rfl))
  k_with "binaryOp RShift int int" => (k_here; first
  | (refine' rsh2 ?mqhn ?_; (case mqhn => first | assumption | exact Nat.le_trans (by assumption) (by decide) | omega))
  | (refine' rsh4 ?mqhn ?_; (case mqhn => first | assumption | exact Nat.le_trans (by assumption) (by decide) | omega)))
  k_with "binaryOp LShift int int" => (k_here; first
  | (refine' lsh_ 8 256 ?mqhn ?mqhk ?mqhP ?mqh0 ?mqh1 ?_; (case mqhn => decide); (case mqhk => decide); (case mqhP => decide); (case mqh0 => first | assumption | exact Nat.le_trans (by assumption) (by decide) | omega); (case mqh1 => first | assumption | exact Nat.le_trans (by assumption) (by decide) | omega))
  | (refine' lsh_ 6 64 ?mqhn ?mqhk ?mqhP ?mqh0 ?mqh1 ?_; (case mqhn => decide); (case mqhk => decide); (case mqhP => decide); (case mqh0 => first | assumption | exact Nat.le_trans (by assumption) (by decide) | omega); (case mqh1 => first | assumption | exact Nat.le_trans (by assumption) (by decide) | omega))
  | (refine' lsh_ 4 16 ?mqhn ?mqhk ?mqhP ?mqh0 ?mqh1 ?_; (case mqhn => decide); (case mqhk => decide); (case mqhP => decide); (case mqh0 => first | assumption | exact Nat.le_trans (by assumption) (by decide) | omega); (case mqh1 => first | assumption | exact Nat.le_trans (by assumption) (by decide) | omega))
  | (refine' lsh_ 2 4 ?mqhn ?mqhk ?mqhP ?mqh0 ?mqh1 ?_; (case mqhn => decide); (case mqhk => decide); (case mqhP => decide); (case mqh0 => first | assumption | exact Nat.le_trans (by assumption) (by decide) | omega); (case mqh1 => first | assumption | exact Nat.le_trans (by assumption) (by decide) | omega)))
  k_with "binaryOp BitOr int int" => (k_here; first
  | (refine' or_ 8 256 ?mqhP ?mqh0 ?mqh1 ?mqh2 ?_; (case mqhP => decide); (case mqh0 => first | assumption | exact Nat.le_trans (by assumption) (by decide) | omega); (case mqh1 => first | assumption | exact Nat.le_trans (by assumption) (by decide) | omega); (case mqh2 => first | assumption | exact Nat.le_trans (by assumption) (by decide) | omega))
  | (refine' or_ 6 64 ?mqhP ?mqh0 ?mqh1 ?mqh2 ?_; (case mqhP => decide); (case mqh0 => first | assumption | exact Nat.le_trans (by assumption) (by decide) | omega); (case mqh1 => first | assumption | exact Nat.le_trans (by assumption) (by decide) | omega); (case mqh2 => first | assumption | exact Nat.le_trans (by assumption) (by decide) | omega))
  | (refine' or_ 4 16 ?mqhP ?mqh0 ?mqh1 ?mqh2 ?_; (case mqhP => decide); (case mqh0 => first | assumption | exact Nat.le_trans (by assumption) (by decide) | omega); (case mqh1 => first | assumption | exact Nat.le_trans (by assumption) (by decide) | omega); (case mqh2 => first | assumption | exact Nat.le_trans (by assumption) (by decide) | omega))
  | (refine' or_ 2 4 ?mqhP ?mqh0 ?mqh1 ?mqh2 ?_; (case mqhP => decide); (case mqh0 => first | assumption | exact Nat.le_trans (by assumption) (by decide) | omega); (case mqh1 => first | assumption | exact Nat.le_trans (by assumption) (by decide) | omega); (case mqh2 => first | assumption | exact Nat.le_trans (by assumption) (by decide) | omega)))
  k_with "binaryOp BitAnd int int" => (k_here; first
  | refine and65535 ?_
  | refine and63 ?_
  | refine and15 ?_
  | refine and3 ?_)
  k_with "getMethod bytes" => (k_here; (with_reducible refine method_translate ?_))
  k_with "call builtin:bytes.translate" => (k_here; first
  | (refine' call_urlenc ?mqh1 ?mqh2 (fun _ _ => ?_); (case mqh1 => assumption); (case mqh2 => first | kernel_rfl | decide +kernel))
  | (refine' call_urldec ?mqh1 ?mqh2 (fun _ _ => ?_); (case mqh1 => assumption); (case mqh2 => first | kernel_rfl | decide +kernel)))
  k_with "call type:str" => (k_here; (with_reducible show wpAny _ _ (call (Value.type "str") [Value.bytes _ _, Value.str _ _]) _ _ _); first
  | (refine' call_strword0 ?mqh1 (fun _ _ => ?_); (case mqh1 => assumption))
  | (refine' call_strword ?mqh1 (fun _ _ => ?_); (case mqh1 => assumption)))
  k_with "getMethod str" => (k_here; first | with_reducible refine m_encode ?_ | with_reducible refine m_translate ?_)
  k_with "call builtin:str.encode" => (k_here; refine' call_encword ?mqh1 (fun _ _ => ?_); (case mqh1 => assumption))
  k_with "binaryOp Add str str" => (k_here; refine' add_SS ?mqhx ?mqhy ?mqhsz (fun _ _ => ?_); (case mqhx => first | rfl | exact ofS _ | exact S_of _); (case mqhy => first | rfl | exact ofS _ | exact S_of _); (case mqhsz => ((try simp only [List.length_append, List.length_cons, List.length_nil, List.length_replicate]); omega)))
  k_with "binaryOp Mult str int" => (k_here; refine' mul_S ?mqhx ?mqh0 ?mqh1 (fun _ _ => ?_); (case mqhx => exact ofS _); (case mqh0 => first | assumption | exact Nat.le_trans (by assumption) (by decide) | omega); (case mqh1 => first | assumption | exact Nat.le_trans (by assumption) (by decide) | omega))
  k_with "subscriptTail" => (k_here; (with_reducible show wpAny _ _ (subscriptTail _ _ (Value.str _ _) (Value.int _ _)) _ _ _); with_unfolding_all refine' item_S ?mqhx ?mqh0 ?mqh1 ?mqh2 (fun _ _ => ?_) ?mqhs ?mqht; (case mqhx => first | rfl | exact ofS _ | exact S_of _); (case mqh0 => ktr_rel); (case mqh1 => ktr_rel); (case mqh2 => ktr_rel); (case mqhs => with_unfolding_all rfl); (case mqht => intro _; with_unfolding_all rfl))
  k_with "eval Constant int" => (with_reducible refine const_i ?_)
  k_with "binaryOp Add int int" => (with_reducible refine add_i ?_)
  k_with "binaryOp Sub int int" => (with_reducible refine sub_i ?_)
  trivial
theorem m_owner : Manifest.owners.lookup (String.ofList ['p', 'a', 'm'].reverse) = some Manifest.sig_map := by kernel_rfl
theorem m_slot_init : Slot "map" "__init__" "object.__init__" :=
  .of (owner := "object") (n := "__init__") (by rw [typeLookup_type, builtinLookup_eq_fast]; kernel_rfl) (by decide +kernel) (by decide +kernel) (by decide +kernel)
    (by first | exact .inl (by decide +kernel) | exact .inr (by decide +kernel)) (by rw [isSubtype_type]; kernel_rfl)
theorem m_slot_iter : Slot "map" "__iter__" "map.__iter__" :=
  .of (owner := "map") (n := "__iter__") (by rw [typeLookup_type, builtinLookup_eq_fast]; kernel_rfl) (by decide +kernel) (by decide +kernel) (by decide +kernel)
    (by first | exact .inl (by decide +kernel) | exact .inr (by decide +kernel)) (by rw [isSubtype_type]; kernel_rfl)
theorem m_args_iter (a : Value) : argsOk "map.__iter__" ⟨[a], []⟩ := by
  unfold argsOk; rw [signature?_of (id := "map.__iter__") (n := ['_', '_', 'r', 'e', 't', 'i', '_', '_']) (o := ['p', 'a', 'm']) (by kernel_rfl) m_owner]; kernel_rfl
theorem m_slot_next : Slot "map" "__next__" "map.__next__" :=
  .of (owner := "map") (n := "__next__") (by rw [typeLookup_type, builtinLookup_eq_fast]; kernel_rfl) (by decide +kernel) (by decide +kernel) (by decide +kernel)
    (by first | exact .inl (by decide +kernel) | exact .inr (by decide +kernel)) (by rw [isSubtype_type]; kernel_rfl)
theorem m_entry_next : entryFor table "map.__next__" = some Builtin.«map.__next__» := entryFor_of_tree (by kernel_rfl)
theorem m_args_next (a : Value) : argsOk "map.__next__" ⟨[a], []⟩ := by
  unfold argsOk; rw [signature?_of (id := "map.__next__") (n := ['_', '_', 't', 'x', 'e', 'n', '_', '_']) (o := ['p', 'a', 'm']) (by kernel_rfl) m_owner]; kernel_rfl
theorem m_entry_iter : entryFor table "map.__iter__" = some Builtin.«dict_keyiterator.__iter__» :=
  entryFor_alias (id' := "dict_keyiterator.__iter__") (by kernel_rfl) (by first | rfl | decide +kernel | (unfold String.splitOn; simp +decide [String.splitOnAux])) (by decide +kernel) (by kernel_rfl)
theorem m_mro : mroOf (.type "map") = pure [.type "map", .type "object"] := by rw [mroOf_type]; kernel_rfl
theorem m_lookup_new : typeLookup (.type "map") "__new__" = pure (some (.builtin "map.__new__")) := by rw [typeLookup_type, builtinLookup_eq_fast]; kernel_rfl
theorem m_called : TypeCalled "map" "map.__new__" "object.__init__" :=
  ⟨by decide +kernel, by decide +kernel, ⟨_, _, m_mro⟩, madeBy_type m_mro m_lookup_new (by decide +kernel), by decide +kernel, by rw [isSubtype_type]; kernel_rfl, m_slot_init⟩
theorem m_typeCall (a b : Value) : checkTypeCall "map" ⟨[a, b], []⟩ = pure () := by kernel_rfl
theorem m_newCall (a b : Value) : checkBuiltinCall "map.__new__" ⟨[.type "map", a, b], []⟩ = pure () := by kernel_rfl
theorem m_entry_new : entryFor table "map.__new__" = some Builtin.«map.__new__» := entryFor_of_tree (by kernel_rfl)
theorem m_no_len : typeLookup (.type "map") "__len__" = pure none := by rw [typeLookup_type, builtinLookup_eq_fast]; kernel_rfl
theorem m_no_hint : typeLookup (.type "map") "__length_hint__" = pure none := by rw [typeLookup_type, builtinLookup_eq_fast]; kernel_rfl
theorem m_sub : isSubtype (.type "map") (.type "map") = pure true := by rw [isSubtype_type]; kernel_rfl
noncomputable abbrev IsMap (h : Heap) (z T : Addr) (f : Value) : Prop := h.get? z = some { cls := .type "map", dict := none, data := .fields #[.ref T, f], slots := #[] }
noncomputable abbrev IsOne (h : Heap) (T : Addr) (a : Value) : Prop := h.get? T = some { cls := .type "tuple", data := .seq #[a] }
noncomputable abbrev mapH1 (h : Heap) (l : Addr) : Heap := h.push { cls := .type "list_iterator", data := .fields #[.ref l, .int 0 0] }
noncomputable abbrev mapH2 (h : Heap) (l : Addr) : Heap := (mapH1 h l).push { cls := .type "tuple", data := .seq #[.ref h.objs.size] }
noncomputable abbrev mapH3 (h : Heap) (l : Addr) (f : Value) : Heap := (mapH2 h l).push { cls := .type "map", data := .fields #[.ref (mapH1 h l).objs.size, f] }
theorem m_meets_new (f : Value) (l : Addr) (xs : Array Value) :
    Meets (Builtin.«map.__new__» ⟨[.type "map", f, .ref l], []⟩) (fun _ R s => s.heap.IsList l xs ∧
      R (.ok (.ret (.ref (mapH2 s.heap l).objs.size))) { s with heap := mapH3 s.heap l f }) :=
  .of_wp fun prog w A R s h => by
    obtain ⟨hp, g, d, tk, os⟩ := s; obtain ⟨hl, h⟩ := h
    have hsub := m_sub
    have hL : Heap.IsList (Shared.heap ⟨hp, g, d, tk, os⟩) l xs := hl
    wp_walk using wpAny_pyIter_list hL
    exact ⟨_, rfl, h⟩
section
variable {prog : Program} {w : World} {A : Around} {E : Value → Shared → Prop} {s : Shared}
theorem call_map_2 {f : Value} {l : Addr} {xs : Array Value} {Q : Value → Shared → Prop} (hl : s.heap.IsList l xs)
    (h : ∀ h', IsMap h' (s.heap.objs.size + 2) (s.heap.objs.size + 1) f → IsOne h' (s.heap.objs.size + 1) (.ref s.heap.objs.size) → h'.get? s.heap.objs.size = some { cls := .type "list_iterator", data := .fields #[.ref l, .int 0 0] } → h'.objs.size = s.heap.objs.size + 3 → Kept s.heap h' → Q (.ref (s.heap.objs.size + 2)) { s with heap := h' }) :
    wpAny (model prog w) A (call (.type "map") [f, .ref l]) Q E s := by
  refine callType_new m_called (by decide) (m_typeCall _ _) (m_newCall _ _) (fun obj => F.args_object_init_3 obj _ _) m_entry_new (m_meets_new f l xs) ⟨hl, ?_⟩
  have z1 : (mapH1 s.heap l).objs.size = s.heap.objs.size + 1 := Heap.size_push ..
  have z2 : (mapH2 s.heap l).objs.size = s.heap.objs.size + 2 := by rw [Heap.size_push, z1]
  have z3 : (mapH3 s.heap l f).objs.size = s.heap.objs.size + 3 := by rw [Heap.size_push, z2]
  have g3 : (mapH3 s.heap l f).get? (mapH2 s.heap l).objs.size = some _ := Heap.get?_push_size _ rfl
  have g2 : (mapH3 s.heap l f).get? (mapH1 s.heap l).objs.size = some _ := Heap.get?_push_of_some _ (Heap.get?_push_size _ rfl)
  have g1 : (mapH3 s.heap l f).get? s.heap.objs.size = some _ := Heap.get?_push_of_some _ (Heap.get?_push_of_some _ (Heap.get?_push_size _ rfl))
  show _ ∧ _
  rw [z1, z2] at g3
  rw [z1] at g2
  rw [z2]
  exact ⟨⟨_, g3, rfl⟩, h _ g3 g2 g1 z3 fun c o x => Heap.get?_push_of_some _ (Heap.get?_push_of_some _ (Heap.get?_push_of_some _ x))⟩
theorem m_pyIter {z T : Addr} {f : Value} {Q : Value → Shared → Prop} (hz : IsMap s.heap z T f) (h : Q (.ref z) s) : wpAny (model prog w) A (pyIter (.ref z)) Q E s := by
  have hT : s.TypeIs (.ref z) "map" := ⟨_, hz, rfl⟩
  refine wpAny_pyIter_slot hT m_slot_iter (wpAny_call_entry m_slot_iter hT m_entry_iter ?_ (m_args_iter _))
  show wpAny _ _ (ret (.ref z)) _ _ s
  exact wpAny_pure ⟨_, rfl, "map", _, hT, m_slot_next.lookup, h⟩
theorem m_next_item {z T i1 l : Addr} {f x : Value} {k : Nat} {xs : Array Value} {Q : Option Value → Shared → Prop} (hzi : z ≠ i1)
    (hz : IsMap s.heap z T f) (hT : IsOne s.heap T (.ref i1)) (h1 : s.heap.IsListIter i1 l k) (hl : s.heap.IsList l xs) (hx : xs[k]? = some x)
    (hQ : ∀ h', h'.IsListIter i1 l (k + 1) → Heap.SameBut i1 s.heap h' → ∀ E', wpAny (model prog w) A.in1 (call f [x]) (fun v s' => Q (some v) s') E' { s with heap := h' }) :
    wpAny (model prog w) A (pyNext (.ref z)) Q E s := by
  have hTy : s.TypeIs (.ref z) "map" := ⟨_, hz, rfl⟩
  unfold pyNext
  refine wpAny_bind (wpAny_attempt (wpAny_callSpecial?_slot (name := Str.ofString "__next__") hTy m_slot_next
    (wpAny_call_entry m_slot_next hTy m_entry_next ?_ (m_args_next _))))
  show wpAny _ _ (field (.ref z) 0 >>= _) _ _ _
  refine wpAny_bind (wpAny_field hz rfl (x := .ref T) rfl ?_)
  refine wpAny_bind (wpAny_seqItems hT rfl ?_)
  refine wpAny_bind ?_
  rw [← Array.forIn_toList]
  simp only [List.forIn_cons, List.forIn_nil]
  refine wpAny_bind (wpAny_bind (wpAny_holding (wpAny_nextOf_list_item h1 hl hx fun h' h1' hs => wpAny_pure (wpAny_pure ?_))))
  have hz' : IsMap h' z T f := hs.extBut _ _ hzi hz
  refine wpAny_bind (wpAny_field hz' rfl (x := f) rfl ?_)
  refine wpAny_bind (wpAny_holding (wpAny_mono (hQ h' h1' hs _) (fun v s' hv => ?_) fun _ _ e => e))
  exact wpAny_bind (wpAny_letGo (wpAny_pure ⟨_, rfl, wpAny_pure hv⟩))
theorem m_next_end {z T i1 l : Addr} {f : Value} {k : Nat} {xs : Array Value} {Q : Option Value → Shared → Prop} (hh : A.handled = none)
    (hz : IsMap s.heap z T f) (hT : IsOne s.heap T (.ref i1)) (h1 : s.heap.IsListIter i1 l k) (hl : s.heap.IsList l xs) (hx : xs[k]? = none)
    (hQ : ∀ h', Heap.ExtBut i1 s.heap h' → Q none { s with heap := h' }) :
    wpAny (model prog w) A (pyNext (.ref z)) Q E s := by
  have hTy : s.TypeIs (.ref z) "map" := ⟨_, hz, rfl⟩
  unfold pyNext
  refine wpAny_bind (wpAny_attempt (wpAny_callSpecial?_slot (name := Str.ofString "__next__") hTy m_slot_next
    (wpAny_call_entry m_slot_next hTy m_entry_next ?_ (m_args_next _))))
  show wpAny _ _ (field (.ref z) 0 >>= _) _ _ _
  refine wpAny_bind (wpAny_field hz rfl (x := .ref T) rfl ?_)
  refine wpAny_bind (wpAny_seqItems hT rfl ?_)
  refine wpAny_bind ?_
  rw [← Array.forIn_toList]
  simp only [List.forIn_cons, List.forIn_nil]
  refine wpAny_bind (wpAny_bind (wpAny_holding (wpAny_nextOf_list_end hh h1 hl hx fun h' e hs he => ?_)))
  obtain ⟨o, ho, hc⟩ := he
  refine wpAny_bind (wpAny_isInstance (T := "StopIteration") (b := true) ⟨o, ho, hc⟩ isSubtype_stop ?_)
  exact wpAny_pure (hQ _ hs)
/-- a map over a list, its function answering as P says -/
noncomputable def MapSt (hb : Heap) (i1 l : Addr) (i : Nat) (h : Heap) : Prop := (∀ b o, b ≠ i1 → hb.get? b = some o → h.get? b = some o) ∧ h.IsListIter i1 l i
theorem m_walks {z T i1 l : Addr} {f : Value} {xs : Array Value} {P : Nat → Value → Prop} {hb : Heap} (hh : A.handled = none) (hi1 : i1 < hb.objs.size) (hTi : T ≠ i1) (hzi : z ≠ i1) (hli : l ≠ i1)
    (hz : IsMap hb z T f) (hT : IsOne hb T (.ref i1)) (hl : hb.IsList l xs)
    (hcall : ∀ i x (s : Shared) (Q E : Value → Shared → Prop), xs[i]? = some x → (∀ b o, b ≠ i1 → hb.get? b = some o → s.heap.get? b = some o) → (∀ v h' tk, P i v → Kept s.heap h' → Q v { s with heap := h', toks := tk }) → wpAny (model prog w) A.in1 (call f [x]) Q E s) :
    Walks prog w A z (List.range hb.objs.size) [i1] xs.size P (fun i h => MapSt hb i1 l i h) where
  sub := fun b hb' => by rw [List.mem_singleton.mp hb']; exact List.mem_range.mpr hi1
  frame := fun i h h' st hk => ⟨fun b o hb' e => hk b (List.mem_range.mpr (Heap.lt_size e)) o (st.1 b o hb' e), st.2.at fun o e => hk i1 (List.mem_range.mpr hi1) o e⟩
  item := fun i s Q E hi st hQ => by
    refine m_next_item hzi (st.1 _ _ hzi hz) (st.1 _ _ hTi hT) st.2 (hl.at fun o e => st.1 _ o hli e) (x := xs[i]) (by simp [hi]) fun h' h1' hs E' => ?_
    have k1 : ∀ b o, b ≠ i1 → hb.get? b = some o → h'.get? b = some o := fun b o hb' e => hs.extBut _ _ hb' (st.1 b o hb' e)
    refine hcall i xs[i] _ _ _ (by simp [hi]) k1 fun v h'' tk hP hk => ?_
    exact hQ v h'' tk hP ⟨fun b o hb' e => hk _ _ (k1 b o hb' e), h1'.at fun o e => hk _ _ e⟩ fun b o hb' e => hk _ _ (hs.extBut _ _ (fun x => hb' (by simp [x])) e)
  done := fun s Q E st hQ =>
    m_next_end hh (st.1 _ _ hzi hz) (st.1 _ _ hTi hT) st.2 (hl.at fun o e => st.1 _ o hli e) (by simp) fun h' hk => hQ h' s.toks fun b o hb' e => hk b o (fun x => hb' (by simp [x])) e
  self := fun i s Q E st hQ => m_pyIter (st.1 _ _ hzi hz) hQ
theorem m_extend {R : Result → Shared → Prop} {I : Addr} {fp wr : List Addr} {n : Nat} {P : Nat → Value → Prop} {St : Nat → Heap → Prop} (W : Walks prog w A.in1 I fp wr n P St) (hT : ∀ i h, St i h → ∃ o, h.get? I = some o ∧ o.cls = .type "map") (S : Addr) (res : Value) (c₀ : Nat) (hst : St 0 s.heap) (hSf : S ∉ fp) (hI : I ∈ fp)
    (hS : s.heap.get? S = some { cls := .type "list", data := .seq #[] c₀ })
    (hR : ∀ h' tk acc' c', (∀ b o, b ∉ S :: wr → s.heap.get? b = some o → h'.get? b = some o) → h'.get? S = some { cls := .type "list", dict := none, data := .seq acc' c', slots := #[] } → ItemsOf P acc' n → R (.ok (.ret res)) { s with heap := h', toks := tk }) (hn : n ≤ sizeLine) :
    wpAny (model prog w) A.in1 (Builtin.List.listExtendWith (.ref S) (.ref I) res)
      (fun fin s' => match fin with | .done f => R (.ok f) s' | .again c' => c'.quiet = true ∧ codeAny (model prog w) A c' R s') (fun e s' => R (.error e) s') s := by
  have hSI : S ≠ I := fun e => hSf (e ▸ hI)
  have hTI : s.TypeIs (.ref I) "map" := hT 0 _ hst
  unfold Builtin.List.listExtendWith
  refine wpAny_bind (wpAny_typeOf hTI ?_)
  have h1 : Builtin.List.listSameRef (.ref S) (.ref I) = false := by simp [Builtin.List.listSameRef, hSI]
  have h2 : (Value.type "map" == Value.type "list") = false := by decide
  have h3 : (Value.type "map" == Value.type "tuple") = false := by decide
  simp only [h1, h2, h3, Bool.or_false, Bool.false_eq_true, if_false]
  refine wpAny_bind (W.self 0 _ _ _ hst ?_)
  refine wpAny_bind (wpAny_holding ?_)
  unfold Builtin.List.listLengthHint
  refine wpAny_bind (wpAny_specialOf hTI m_no_len ?_)
  show wpAny _ A.in1 (specialOf (Value.ref I) (Str.ofString "__length_hint__") >>= _) _ _ _
  refine wpAny_bind (wpAny_specialOf hTI m_no_hint ?_)
  refine wpAny_pure ?_
  show wpAny _ A.in1 (rule "list.extend.makes-room" >>= fun _ => Builtin.List.listTouch (.ref S) >>= fun _ =>
    again (.builtin "list.extend.loop" ⟨[.ref S, .ref I, res], []⟩)) _ _ _
  refine wpAny_bind (wpAny_rule ?_)
  refine wpAny_bind ?_
  show wpAny _ A.in1 (updateSeq S (·.push .none) >>= fun _ => updateSeq S (·.pop)) _ _ _
  refine wpAny_bind (wpAny_updateSeq hS rfl ?_)
  have hS₂ := Heap.get?_update_self (Obj.mapSeq (·.push Value.none)) hS rfl
  refine wpAny_updateSeq (hz := by seq_fits) hS₂ rfl ?_
  have hS₃ := Heap.get?_update_self (Obj.mapSeq (·.pop)) hS₂ rfl
  have oth : ∀ b o, b ≠ S → s.heap.get? b = some o → ((s.heap.update S (Obj.mapSeq (·.push Value.none))).update S (Obj.mapSeq (·.pop))).get? b = some o :=
    fun b o hb e => (Heap.get?_update_other _ _ (Ne.symm hb)).trans ((Heap.get?_update_other _ _ (Ne.symm hb)).trans e)
  refine wpAny_pure ⟨plainId_quiet F.plain_extend_loop _, codeAny_extend_loopS W.toS hn _ hSf _ n 0 _ _ _ rfl (Nat.zero_le _)
    (W.frame 0 _ _ hst fun b hb o e => oth b o (fun h => hSf (h ▸ hb)) e) hS₃ (ItemsOf.nil P) fun s' acc' c' hm hS' hacc => ?_⟩
  rw [Moved.eq_with hm]
  exact hR s'.heap s'.toks acc' c' (fun b o hb e => hm.heap b o hb (oth b o (fun h => hb (h ▸ List.mem_cons_self)) e)) hS' hacc
theorem m_list {I : Addr} {fp wr : List Addr} {n : Nat} {P : Nat → Value → Prop} {St : Nat → Heap → Prop} {Q : Value → Shared → Prop} (W : Walks prog w A.in1.in1 I fp wr n P St) (hT : ∀ i h, St i h → ∃ o, h.get? I = some o ∧ o.cls = .type "map") (hst : St 0 s.heap) (hfp : ∀ b ∈ fp, b < s.heap.objs.size) (hI : I ∈ fp)
    (hQ : ∀ h' tk acc' c', (∀ b o, b ∉ wr → s.heap.get? b = some o → h'.get? b = some o) → h'.get? s.heap.objs.size = some { cls := .type "list", dict := none, data := .seq acc' c', slots := #[] } → ItemsOf P acc' n → Q (.ref s.heap.objs.size) { s with heap := h', toks := tk }) (hn : n ≤ sizeLine) :
    wpAny (model prog w) A (call (.type "list") [.ref I]) Q E s := by
  have hSf : s.heap.objs.size ∉ fp := fun hm => Nat.lt_irrefl _ (hfp _ hm)
  refine callType_codes (Q₁ := fun obj s₁ => obj = .ref s.heap.objs.size ∧ s₁ = { s with heap := s.heap.push { cls := .type "list", data := .seq #[] } }) F.called_list (F.typeCall_list_1 _) F.entry_list_init
    (code_list_new _ ⟨rfl, rfl⟩) fun obj s₁ h₁ => ?_
  obtain ⟨rfl, rfl⟩ := h₁
  have hS : (s.heap.push { cls := .type "list", data := .seq #[] }).get? s.heap.objs.size = some { cls := .type "list", data := .seq #[] } := Heap.get?_push_size _ rfl
  refine ⟨⟨_, hS, rfl⟩, F.args_list_init_2 _ _, ?_⟩
  show wpAny _ A.in1.in1 (do let old ← Builtin.List.listItems (.ref s.heap.objs.size); Builtin.List.listUpdate (.ref s.heap.objs.size) (fun _ => #[]); letGo old.toList.reverse; Builtin.List.listExtendWith (.ref s.heap.objs.size) (.ref I) .none) _ _ _
  refine wpAny_bind ?_
  unfold Builtin.List.listItems
  refine wpAny_bind (wpAny_seqItems hS rfl (wpAny_pure ?_))
  show wpAny _ A.in1.in1 (updateSeq s.heap.objs.size (fun _ => #[]) >>= fun _ => letGo (#[] : Array Value).toList.reverse >>= fun _ => Builtin.List.listExtendWith (.ref s.heap.objs.size) (.ref I) .none) _ _ _
  refine wpAny_bind (wpAny_updateSeq hS rfl ?_)
  have hS₂ := Heap.get?_update_self (Obj.mapSeq (fun _ => (#[] : Array Value))) hS rfl
  have oth : ∀ b o, s.heap.get? b = some o → ((s.heap.push { cls := .type "list", data := .seq #[] }).update s.heap.objs.size (Obj.mapSeq (fun _ => (#[] : Array Value)))).get? b = some o :=
    fun b o e => (Heap.get?_update_other _ _ (Ne.symm (Nat.ne_of_lt (Heap.lt_size e)))).trans (Heap.get?_push_of_some _ e)
  refine wpAny_bind (wpAny_letGo ?_)
  refine m_extend (A := A.in1) (hn := hn) W hT _ .none _ (W.frame 0 _ _ hst fun b hb o e => oth b o e) hSf hI hS₂ fun h' tk acc' c' hm hS' hacc => ?_
  refine ⟨rfl, hQ h' tk acc' c' (fun b o hb e => hm b o (fun x => ?_) (oth b o e)) hS' hacc⟩
  rcases List.mem_cons.mp x with rfl | x
  · exact Nat.lt_irrefl _ (Heap.lt_size e)
  · exact hb x
end
end
section
theorem kz_Bnd : True := by
  k_with_none
  k_with "mine:room" => (first | exact Room.lt (by assumption) | exact Room.lt (Room.deep (k := 1) (e := 0) (by assumption) (by decide)) | exact Room.lt (Room.deep (k := 1) (e := 0) (Room.deep (k := 1) (e := 1) (by assumption) (by decide)) (by decide)) | exact Room.deep (by assumption) (by decide) | ((with_reducible show Room _ _); unfold Room; decide) | ((with_reducible show Room _ _); unfold Room; simp only [depth_under_make, depth_under_kw, depth_in1, depth_deeper, depth_caller]; decide))
  k_with "mine:units" => (first | exact Units.deep (by assumption) (by decide) | exact Units.deep2 (by assumption) (by decide) | ((with_reducible show Units _ _); unfold Units; ktr_units))
  k_with "mine:all1" => (first | exact fnil | (refine fcons (by with_unfolding_all rfl) ?_; walk_at "mine:all1"))
  k_with "mine:allin" => (first | exact fnil | (refine fcons (by k_memK) ?_; walk_at "mine:allin") | (intro p9 h9; kst_mem))
  k_with "mine:all" => (first | exact fnil | (refine' fcons ?mqfa ?mqfb; (case mqfa => k_ne); (case mqfb => walk_at "mine:all")))
  k_with "mine:cell" => (first
  | (refine' callP ?mqk1 ?mqk2 ?mqk3 ?mqk5 ?mqkA ?mqkF ?mqkK ?mqk6 ?mqk7 ?mqk8 ?mqk9 ?mqkB ?_ ?mqc2 ?mqc3 ?mqc4 ?mqc5; (case mqkA => exact rfl); (case mqkF => exact rfl); (case mqkK => assumption); (case mqk1 => k_asm); (case mqk2 => k_asm); (case mqk3 => k_asm); (case mqk5 => k_asm); (case mqk6 => k_is); (case mqk7 => k_is); (case mqk8 => ktr_room); (case mqk9 => first | exact BindsTo.of_eq rfl | exact binds_K (by k_in) rfl (by k_is) rfl rfl rfl); (case mqc5 => decide); (case mqkB => exact locs rfl); (case mqc2 => exact rfl); (case mqc3 => exact rfl); (case mqc4 => exact rfl); k_whole; intro _ _ _ _ _ _ _ _ _ _; walk_at "mine:let"; (try dsimp only); (try k_fold); (try walk_at "mine:env"))
  | (refine' callPC ?mqk1 ?mqk2 ?mqk3 ?mqk5 ?mqkA ?mqkF ?mqkK ?mqk6 ?mqk7 ?mqk8 ?mqk9 ?mqkB ?mqkD ?_ ?mqc2 ?mqc3 ?mqc4; (case mqkA => exact rfl); (case mqkF => exact rfl); (case mqkK => assumption); (case mqk1 => k_asm); (case mqk2 => k_asm); (case mqk3 => k_asm); (case mqk5 => k_asm); (case mqk6 => k_is); (case mqk7 => k_is); (case mqk8 => ktr_room); (case mqk9 => first | exact BindsTo.of_eq rfl | exact binds_K (by k_in) rfl (by k_is) rfl rfl rfl); (case mqkB => exact rfl); (case mqkD => decide +kernel); (case mqc2 => exact rfl); (case mqc3 => exact rfl); (case mqc4 => exact rfl); k_whole; intro _ _ _ _ _ _ _ _ N' Y' _ _ _; walk_at "mine:let"; k_cells Y'; (try simp only [List.cons_append, List.nil_append] at N'); (try (revert N'; intro _)); (try dsimp only); (try k_fold); (try walk_at "mine:env")))
  k_with "call type:bytes" => (k_here; (with_reducible show wpAny _ _ (call (Value.type "bytes") [Value.ref _]) _ _ _); k_dflt (refine' KBa.make_K ?mqkbaF ?mqkbaN ?mqkbah ?mqkbal ?mqkbai ?mqkbar ?mqkban ?_; (case mqkbaF => k_asm); (case mqkbaN => k_asm); (case mqkbah => rfl); (case mqkbal => exact News.isList (by k_asm) (by k_mem)); (case mqkbai => first | exact IntsAre.cons _ _ (IntsAre.cons _ _ (IntsAre.cons _ _ (IntsAre.cons _ _ IntsAre.nil))) | exact IntsAre.cons _ _ (IntsAre.cons _ _ IntsAre.nil) | exact IntsAre.cons _ _ IntsAre.nil); (case mqkbar => (repeat (first | exact fnil | refine fcons ⟨by omega, by omega⟩ ?_))); (case mqkban => exact Nat.le_of_ble_eq_true rfl); k_whole); intro _ _ _ _ _ _)
  k_with "call type:list" => (k_here; (with_reducible show wpAny _ _ (call (Value.type "list") [Value.bytes _ _]) _ _ _); first
  | (k_dflt (refine' list_bytes1 ?mqk1 ?mqk2 ?mqk3 ?mqk4 ?_; (case mqk1 => k_asm); (case mqk2 => k_asm); (case mqk3 => rfl); (case mqk4 => assumption)); intro _ _ _ _ _ _ _ l1; (try k_lt l1); (try (revert l1; intro _)))
  | (k_dflt (refine' list_bytes2 ?mqk1 ?mqk2 ?mqk3 ?mqk4 ?_; (case mqk1 => k_asm); (case mqk2 => k_asm); (case mqk3 => rfl); (case mqk4 => assumption)); intro _ _ _ _ _ _ _ _ l1; (try k_lt l1); (try (revert l1; intro _))))
  k_with "exec For Name BinOp cons nil" => (k_here; (with_unfolding_all refine' For_invVF ?mqkF ?mqk1 ?mqk2 ?_; (case mqkF => k_asm); (case mqk1 => exact rfl); (case mqk2 => exact rfl); k_whole))
  k_with "mine:env" => ((show (let AA := _; let EE := _; wpAny _ AA (execs _ EE) _ _ _)); intro AA EE)
  k_with "mine:let" => ((rename Fr _ _ _ _ => lF'); refine fr_let lF' ?_; clear lF'; intro _ _)
  k_with "storeName" => (k_here; k_dflt (refine' storeM ?mqF ?mqN ?_ ?mqhk ?mqhx; (case mqF => k_asm); (case mqN => k_asm); (case mqhk => exact rfl); (case mqhx => exact rfl); k_whole); intro _ _ _ _ _; (try k_sweep))
  k_with "mine:turn" => (walk_at "mine:let"; (show wpAny _ _ _ _ _ _); k_fold)
  k_with "mine:led" => (intro p hp; revert p; repeat (first | exact fnil | refine fcons rfl ?_))
  k_with "mine:same" => ((try dsimp (config := { zetaDelta := true }) only); ksw_same)
  k_with "mine:used" => (intro _ _ _ _ _ _ r9; (obtain ⟨_, e9⟩ := r9); subst e9; (try dsimp only); (try k_fold))
  k_with "mine:usedN" => (intro _ _ _ _ _ _ _ _ _ _; (try dsimp only); (try k_fold))
  k_with "mine:forG" => (k_dflt (refine' For_G ?mqkF ?_; (case mqkF => k_asm)))
  k_with "mine:forT" => (k_dflt (refine' For_T ?mqkF ?_; (case mqkF => k_asm)))
  k_with "call type:type" => (k_here; (with_reducible show wpAny _ _ (call _ [Value.bytes _ _]) _ _ _); refine call_type_of (Tx := "bytes") rfl (by decide +kernel) ?_)
  k_with "pyIter bytes" => ((with_reducible show wpAny _ _ (pyIter (Value.bytes _ _)) (fun it s₂ => LoopAtV _ _ _ _ _ _ _ _ _ it s₂) _ _); k_here; k_bytesUnr)
  k_with "subscriptTail" => (k_here; (with_reducible show wpAny _ _ (subscriptTail (Expr.Name "_B64" _) _ (Value.bytes _ _) (Value.int _ _)) _ _ _); with_unfolding_all refine' b64_item ?mqh0 ?mqh1 (fun _ _ _ _ => ?_) ?mqhs ?mqht; (case mqh0 => first | assumption | exact Nat.le_trans (by assumption) (by decide) | omega); (case mqh1 => first | assumption | exact Nat.le_trans (by assumption) (by decide) | omega); (case mqhs => with_unfolding_all rfl); (case mqht => intro _; with_unfolding_all rfl))
  k_with "binaryOp RShift int int" => (k_here; first
  | (refine' rsh2 ?mqhn ?_; (case mqhn => first | assumption | exact Nat.le_trans (by assumption) (by decide) | omega))
  | (refine' rsh4 ?mqhn ?_; (case mqhn => first | assumption | exact Nat.le_trans (by assumption) (by decide) | omega)))
  k_with "binaryOp LShift int int" => (k_here; first
  | (refine' lsh_ 8 256 ?mqhn ?mqhk ?mqhP ?mqh0 ?mqh1 ?_; (case mqhn => decide); (case mqhk => decide); (case mqhP => decide); (case mqh0 => first | assumption | exact Nat.le_trans (by assumption) (by decide) | omega); (case mqh1 => first | assumption | exact Nat.le_trans (by assumption) (by decide) | omega))
  | (refine' lsh_ 6 64 ?mqhn ?mqhk ?mqhP ?mqh0 ?mqh1 ?_; (case mqhn => decide); (case mqhk => decide); (case mqhP => decide); (case mqh0 => first | assumption | exact Nat.le_trans (by assumption) (by decide) | omega); (case mqh1 => first | assumption | exact Nat.le_trans (by assumption) (by decide) | omega))
  | (refine' lsh_ 4 16 ?mqhn ?mqhk ?mqhP ?mqh0 ?mqh1 ?_; (case mqhn => decide); (case mqhk => decide); (case mqhP => decide); (case mqh0 => first | assumption | exact Nat.le_trans (by assumption) (by decide) | omega); (case mqh1 => first | assumption | exact Nat.le_trans (by assumption) (by decide) | omega))
  | (refine' lsh_ 2 4 ?mqhn ?mqhk ?mqhP ?mqh0 ?mqh1 ?_; (case mqhn => decide); (case mqhk => decide); (case mqhP => decide); (case mqh0 => first | assumption | exact Nat.le_trans (by assumption) (by decide) | omega); (case mqh1 => first | assumption | exact Nat.le_trans (by assumption) (by decide) | omega)))
  k_with "binaryOp BitOr int int" => (k_here; first
  | (refine' or_ 8 256 ?mqhP ?mqh0 ?mqh1 ?mqh2 ?_; (case mqhP => decide); (case mqh0 => first | assumption | exact Nat.le_trans (by assumption) (by decide) | omega); (case mqh1 => first | assumption | exact Nat.le_trans (by assumption) (by decide) | omega); (case mqh2 => first | assumption | exact Nat.le_trans (by assumption) (by decide) | omega))
  | (refine' or_ 6 64 ?mqhP ?mqh0 ?mqh1 ?mqh2 ?_; (case mqhP => decide); (case mqh0 => first | assumption | exact Nat.le_trans (by assumption) (by decide) | omega); (case mqh1 => first | assumption | exact Nat.le_trans (by assumption) (by decide) | omega); (case mqh2 => first | assumption | exact Nat.le_trans (by assumption) (by decide) | omega))
  | (refine' or_ 4 16 ?mqhP ?mqh0 ?mqh1 ?mqh2 ?_; (case mqhP => decide); (case mqh0 => first | assumption | exact Nat.le_trans (by assumption) (by decide) | omega); (case mqh1 => first | assumption | exact Nat.le_trans (by assumption) (by decide) | omega); (case mqh2 => first | assumption | exact Nat.le_trans (by assumption) (by decide) | omega))
  | (refine' or_ 2 4 ?mqhP ?mqh0 ?mqh1 ?mqh2 ?_; (case mqhP => decide); (case mqh0 => first | assumption | exact Nat.le_trans (by assumption) (by decide) | omega); (case mqh1 => first | assumption | exact Nat.le_trans (by assumption) (by decide) | omega); (case mqh2 => first | assumption | exact Nat.le_trans (by assumption) (by decide) | omega)))
  k_with "binaryOp BitAnd int int" => (k_here; first
  | refine and65535 ?_
  | refine and63 ?_
  | refine and15 ?_
  | refine and3 ?_)
  k_with "getMethod bytes" => (k_here; (with_reducible refine method_translate ?_))
  k_with "call builtin:bytes.translate" => (k_here; first
  | (refine' call_urlenc ?mqh1 ?mqh2 (fun _ _ => ?_); (case mqh1 => assumption); (case mqh2 => first | kernel_rfl | decide +kernel))
  | (refine' call_urldec ?mqh1 ?mqh2 (fun _ _ => ?_); (case mqh1 => assumption); (case mqh2 => first | kernel_rfl | decide +kernel)))
  k_with "call type:str" => (k_here; (with_reducible show wpAny _ _ (call (Value.type "str") [Value.bytes _ _, Value.str _ _]) _ _ _); first
  | (refine' call_strword0 ?mqh1 (fun _ _ => ?_); (case mqh1 => assumption))
  | (refine' call_strword ?mqh1 (fun _ _ => ?_); (case mqh1 => assumption)))
  k_with "getMethod str" => (k_here; first | with_reducible refine m_encode ?_ | with_reducible refine m_translate ?_)
  k_with "call builtin:str.encode" => (k_here; refine' call_encword ?mqh1 (fun _ _ => ?_); (case mqh1 => assumption))
  k_with "binaryOp Add str str" => (k_here; refine' add_SS ?mqhx ?mqhy ?mqhsz (fun _ _ => ?_); (case mqhx => first | rfl | exact ofS _ | exact S_of _); (case mqhy => first | rfl | exact ofS _ | exact S_of _); (case mqhsz => ((try simp only [List.length_append, List.length_cons, List.length_nil, List.length_replicate]); omega)))
  k_with "binaryOp Mult str int" => (k_here; refine' mul_S ?mqhx ?mqh0 ?mqh1 (fun _ _ => ?_); (case mqhx => exact ofS _); (case mqh0 => first | assumption | exact Nat.le_trans (by assumption) (by decide) | omega); (case mqh1 => first | assumption | exact Nat.le_trans (by assumption) (by decide) | omega))
  k_with "subscriptTail" => (k_here; (with_reducible show wpAny _ _ (subscriptTail _ _ (Value.str _ _) (Value.int _ _)) _ _ _); with_unfolding_all refine' item_S ?mqhx ?mqh0 ?mqh1 ?mqh2 (fun _ _ => ?_) ?mqhs ?mqht; (case mqhx => first | rfl | exact ofS _ | exact S_of _); (case mqh0 => ktr_rel); (case mqh1 => ktr_rel); (case mqh2 => ktr_rel); (case mqhs => with_unfolding_all rfl); (case mqht => intro _; with_unfolding_all rfl))
  k_with "eval Constant int" => (with_reducible refine const_i ?_)
  k_with "binaryOp Add int int" => (with_reducible refine add_i ?_)
  k_with "binaryOp Sub int int" => (with_reducible refine sub_i ?_)
  trivial
open Builtin
theorem md_get_slot : Slot "method_descriptor" "__get__" "method_descriptor.__get__" :=
  .of (owner := "method_descriptor") (n := "__get__") (by rw [typeLookup_type, builtinLookup_eq_fast]; kernel_rfl) (by decide +kernel) (by decide +kernel) (by decide +kernel)
    (by first | exact .inl (by decide +kernel) | exact .inr (by decide +kernel)) (by rw [isSubtype_type]; kernel_rfl)
theorem md_entry : entryFor table "method_descriptor.__get__" = some Builtin.«method_descriptor.__get__» := entryFor_of_tree (by kernel_rfl)
theorem md_type : typeOf (.builtin "list.append") = pure (.type "method_descriptor") := by show builtinType _ = _; rw [builtinType_eq_fast]; kernel_rfl
theorem md_sub : isSubtype (.type "list") (.type "list") = pure true := by rw [isSubtype_type]; kernel_rfl
theorem md_noset : typeLookup (.type "method_descriptor") "__set__" = pure none := by rw [typeLookup_type, builtinLookup_eq_fast]; kernel_rfl
theorem md_nodel : typeLookup (.type "method_descriptor") "__delete__" = pure none := by rw [typeLookup_type, builtinLookup_eq_fast]; kernel_rfl
theorem md_told : Manifest.toldItsClass.contains "list.append" = false := by decide +kernel
theorem md_cut : ".".intercalate ("list.append".cutAt '.').dropLast = "list" := by decide +kernel
theorem md_typeIs (s : Shared) : s.TypeIs (.builtin "list.append") "method_descriptor" := md_type
theorem md_args (a b c : Value) : argsOk "method_descriptor.__get__" ⟨[a, b, c], []⟩ := by
  unfold argsOk; kernel_rfl
theorem md_meets (D : Addr) (xs : Array Value) (k : Nat) :
    Meets (Builtin.«method_descriptor.__get__» ⟨[.builtin "list.append", .ref D, .type "list"], []⟩) (fun _ R s => s.heap.get? D = some { cls := .type "list", dict := none, data := .seq xs k, slots := #[] } ∧
      R (.ok (.ret (.ref s.heap.objs.size))) { s with heap := s.heap.push { cls := .type "builtin_function_or_method", data := .fields #[.builtin "list.append", .ref D] } }) :=
  Meets.of_wp fun prog w A R s hs => by
    obtain ⟨hp, g, d, tk, os⟩ := s
    obtain ⟨hx, hs⟩ := hs
    have hT : (⟨hp, g, d, tk, os⟩ : Shared).TypeIs (.ref D) "list" := ⟨_, hx, rfl⟩
    have h1 := md_told
    have h2 := md_sub
    unfold Builtin.«method_descriptor.__get__»
    repeat (any_goals (first | assumption | wp_step))
    rw [md_cut]
    refine wpAny_of_eq (a := true) md_sub ?_
    repeat (any_goals (first | assumption | wp_step))
    exact ⟨_, rfl, hs⟩
theorem md_attr (D : Addr) (xs : Array Value) (k : Nat) (u : Tok) :
    Meets (Builtin.«object.__getattribute__» ⟨[.ref D, .str (Str.ofString "append") u], []⟩) (fun _ R s => s.heap.get? D = some { cls := .type "list", dict := none, data := .seq xs k, slots := #[] } ∧
      R (.ok (.ret (.ref s.heap.objs.size))) { s with heap := s.heap.push { cls := .type "builtin_function_or_method", data := .fields #[.builtin "list.append", .ref D] } }) :=
  Meets.of_wp fun prog w A R s hs => by
    obtain ⟨hp, g, d, tk, os⟩ := s
    obtain ⟨hx, hs⟩ := hs
    have hT : (⟨hp, g, d, tk, os⟩ : Shared).TypeIs (.ref D) "list" := ⟨_, hx, rfl⟩
    have h1 := F.slot_list_append.lookup
    have h2 := md_type
    have h3 := md_get_slot.lookup
    have h4 := md_noset
    have h5 := md_nodel
    unfold Builtin.«object.__getattribute__»
    repeat (any_goals (first | assumption | ((with_reducible show wpAny _ _ (call (Value.builtin "method_descriptor.__get__") _ _) _ _ _); refine call_meets md_get_slot (by exact md_typeIs _) md_entry (md_args _ _ _) (md_meets D xs k) ⟨hx, ?_⟩) | wp_step))
    exact wpAny_pure ⟨_, rfl, hs⟩
theorem md_getAttr {prog : Program} {w : World} {A : Around} {E : Value → Shared → Prop} {s : Shared} {D : Addr} {xs : Array Value} {k : Nat} {Q : Value → Shared → Prop} (hx : s.heap.get? D = some { cls := .type "list", dict := none, data := .seq xs k, slots := #[] })
    (h : ∀ tk, Q (.ref s.heap.objs.size) { s with heap := s.heap.push { cls := .type "builtin_function_or_method", data := .fields #[.builtin "list.append", .ref D] }, toks := tk }) : wpAny (model prog w) A (getAttr (.ref D) (Str.ofString "append") true) Q E s := by
  obtain ⟨hp, g, d, tk, os⟩ := s
  have hT : ∀ tk', (⟨hp, g, d, tk', os⟩ : Shared).TypeIs (.ref D) "list" := fun _ => ⟨_, hx, rfl⟩
  have f3 := F.slot_list_getattribute.lookup
  have f4 := F.slot_list_getattribute.bind (.ref D)
  have f5 := am_list_getattr_none
  unfold getAttr getAttrBy
  repeat (any_goals (first | assumption | exact hT _ | ((with_reducible show wpAny _ _ (call (Value.builtin "list.__getattribute__") _ _) _ _ _); refine call_meets F.slot_list_getattribute (hT _) am_entry_list_getattribute (F.args_list_getattribute_2 _ _) (md_attr D xs k _) ⟨hx, ?_⟩) | wp_step))
  exact wpAny_pure (h _)
theorem md_submod : isSubtype (.type "list") (.type "module") = pure false := by rw [isSubtype_type]; kernel_rfl
theorem md_vararg : Manifest.varargsMethods.contains "list.append" = false := by decide +kernel
theorem bound_append {prog : Program} {w : World} {A : Around} {E : Value → Shared → Prop} {s : Shared} {D b : Addr} {xs : Array Value} {k : Nat} {x : Value} {Q : Value → Shared → Prop} (hx : s.heap.get? D = some { cls := .type "list", dict := none, data := .seq xs k, slots := #[] })
    (hb : s.heap.get? b = some { cls := .type "builtin_function_or_method", data := .fields #[.builtin "list.append", .ref D] })
    (h : ∀ h', Heap.SameBut D s.heap h' → h'.get? D = some { cls := .type "list", data := .seq (xs.push x) (k + 1) } → Q .none { s with heap := h' }) (hsz : xs.size ≤ sizeLine) :
    wpAny (model prog w) A (call (.ref b) [x]) Q E s := by
  obtain ⟨hp, g, d, tk, os⟩ := s
  have hT : (⟨hp, g, d, tk, os⟩ : Shared).TypeIs (.ref D) "list" := ⟨_, hx, rfl⟩
  refine wpAny_call (codeAny_of_tree ?_)
  show wpAny _ A.in1 (callAny (.ref b) ⟨[x], []⟩) _ _ _
  unfold callAny
  refine wpAny_bind (wpAny_load hb ?_)
  dsimp only
  rw [if_pos (by decide)]
  have f1 := md_submod
  have f2 := md_vararg
  repeat (any_goals (first | assumption | wp_step))
  refine ⟨plainId_quiet slot_list_append.plain _, codeAny_builtin entry_list_append ?_⟩
  rw [Around.under_plainId slot_list_append.plain _]
  show wpAny _ _ (updateSeq D (·.push x) >>= fun _ => ret .none) _ _ _
  refine wpAny_bind ?_
  refine wpAny_updateSeq (hz := by show xs.size ≤ sizeLine; exact hsz) hx rfl ?_
  exact wpAny_pure (h _ (Heap.SameBut.update ..) (by rw [Heap.get?_update_self _ hx (by rw [mapSeq_push]; rfl), mapSeq_push]))
end
section
theorem kz_Bnd2 : True := by
  k_with_none
  k_with "mine:room" => (first | exact Room.lt (by assumption) | exact Room.lt (Room.deep (k := 1) (e := 0) (by assumption) (by decide)) | exact Room.lt (Room.deep (k := 1) (e := 0) (Room.deep (k := 1) (e := 1) (by assumption) (by decide)) (by decide)) | exact Room.deep (by assumption) (by decide) | ((with_reducible show Room _ _); unfold Room; decide) | ((with_reducible show Room _ _); unfold Room; simp only [depth_under_make, depth_under_kw, depth_in1, depth_deeper, depth_caller]; decide))
  k_with "mine:units" => (first | exact Units.deep (by assumption) (by decide) | exact Units.deep2 (by assumption) (by decide) | ((with_reducible show Units _ _); unfold Units; ktr_units))
  k_with "mine:all1" => (first | exact fnil | (refine fcons (by with_unfolding_all rfl) ?_; walk_at "mine:all1"))
  k_with "mine:allin" => (first | exact fnil | (refine fcons (by k_memK) ?_; walk_at "mine:allin") | (intro p9 h9; kst_mem))
  k_with "mine:all" => (first | exact fnil | (refine' fcons ?mqfa ?mqfb; (case mqfa => k_ne); (case mqfb => walk_at "mine:all")))
  k_with "mine:cell" => (first
  | (refine' callP ?mqk1 ?mqk2 ?mqk3 ?mqk5 ?mqkA ?mqkF ?mqkK ?mqk6 ?mqk7 ?mqk8 ?mqk9 ?mqkB ?_ ?mqc2 ?mqc3 ?mqc4 ?mqc5; (case mqkA => exact rfl); (case mqkF => exact rfl); (case mqkK => assumption); (case mqk1 => k_asm); (case mqk2 => k_asm); (case mqk3 => k_asm); (case mqk5 => k_asm); (case mqk6 => k_is); (case mqk7 => k_is); (case mqk8 => ktr_room); (case mqk9 => first | exact BindsTo.of_eq rfl | exact binds_K (by k_in) rfl (by k_is) rfl rfl rfl); (case mqc5 => decide); (case mqkB => exact locs rfl); (case mqc2 => exact rfl); (case mqc3 => exact rfl); (case mqc4 => exact rfl); k_whole; intro _ _ _ _ _ _ _ _ _ _; walk_at "mine:let"; (try dsimp only); (try k_fold); (try walk_at "mine:env"))
  | (refine' callPC ?mqk1 ?mqk2 ?mqk3 ?mqk5 ?mqkA ?mqkF ?mqkK ?mqk6 ?mqk7 ?mqk8 ?mqk9 ?mqkB ?mqkD ?_ ?mqc2 ?mqc3 ?mqc4; (case mqkA => exact rfl); (case mqkF => exact rfl); (case mqkK => assumption); (case mqk1 => k_asm); (case mqk2 => k_asm); (case mqk3 => k_asm); (case mqk5 => k_asm); (case mqk6 => k_is); (case mqk7 => k_is); (case mqk8 => ktr_room); (case mqk9 => first | exact BindsTo.of_eq rfl | exact binds_K (by k_in) rfl (by k_is) rfl rfl rfl); (case mqkB => exact rfl); (case mqkD => decide +kernel); (case mqc2 => exact rfl); (case mqc3 => exact rfl); (case mqc4 => exact rfl); k_whole; intro _ _ _ _ _ _ _ _ N' Y' _ _ _; walk_at "mine:let"; k_cells Y'; (try simp only [List.cons_append, List.nil_append] at N'); (try (revert N'; intro _)); (try dsimp only); (try k_fold); (try walk_at "mine:env")))
  k_with "call type:bytes" => (k_here; (with_reducible show wpAny _ _ (call (Value.type "bytes") [Value.ref _]) _ _ _); k_dflt (refine' KBa.make_K ?mqkbaF ?mqkbaN ?mqkbah ?mqkbal ?mqkbai ?mqkbar ?mqkban ?_; (case mqkbaF => k_asm); (case mqkbaN => k_asm); (case mqkbah => rfl); (case mqkbal => exact News.isList (by k_asm) (by k_mem)); (case mqkbai => first | exact IntsAre.cons _ _ (IntsAre.cons _ _ (IntsAre.cons _ _ (IntsAre.cons _ _ IntsAre.nil))) | exact IntsAre.cons _ _ (IntsAre.cons _ _ IntsAre.nil) | exact IntsAre.cons _ _ IntsAre.nil); (case mqkbar => (repeat (first | exact fnil | refine fcons ⟨by omega, by omega⟩ ?_))); (case mqkban => exact Nat.le_of_ble_eq_true rfl); k_whole); intro _ _ _ _ _ _)
  k_with "call type:list" => (k_here; (with_reducible show wpAny _ _ (call (Value.type "list") [Value.bytes _ _]) _ _ _); first
  | (k_dflt (refine' list_bytes1 ?mqk1 ?mqk2 ?mqk3 ?mqk4 ?_; (case mqk1 => k_asm); (case mqk2 => k_asm); (case mqk3 => rfl); (case mqk4 => assumption)); intro _ _ _ _ _ _ _ l1; (try k_lt l1); (try (revert l1; intro _)))
  | (k_dflt (refine' list_bytes2 ?mqk1 ?mqk2 ?mqk3 ?mqk4 ?_; (case mqk1 => k_asm); (case mqk2 => k_asm); (case mqk3 => rfl); (case mqk4 => assumption)); intro _ _ _ _ _ _ _ _ l1; (try k_lt l1); (try (revert l1; intro _))))
  k_with "exec For Name BinOp cons nil" => (k_here; (with_unfolding_all refine' For_invVF ?mqkF ?mqk1 ?mqk2 ?_; (case mqkF => k_asm); (case mqk1 => exact rfl); (case mqk2 => exact rfl); k_whole))
  k_with "mine:env" => ((show (let AA := _; let EE := _; wpAny _ AA (execs _ EE) _ _ _)); intro AA EE)
  k_with "mine:let" => ((rename Fr _ _ _ _ => lF'); refine fr_let lF' ?_; clear lF'; intro _ _)
  k_with "storeName" => (k_here; k_dflt (refine' storeM ?mqF ?mqN ?_ ?mqhk ?mqhx; (case mqF => k_asm); (case mqN => k_asm); (case mqhk => exact rfl); (case mqhx => exact rfl); k_whole); intro _ _ _ _ _; (try k_sweep))
  k_with "mine:turn" => (walk_at "mine:let"; (show wpAny _ _ _ _ _ _); k_fold)
  k_with "mine:led" => (intro p hp; revert p; repeat (first | exact fnil | refine fcons rfl ?_))
  k_with "mine:same" => ((try dsimp (config := { zetaDelta := true }) only); ksw_same)
  k_with "mine:used" => (intro _ _ _ _ _ _ r9; (obtain ⟨_, e9⟩ := r9); subst e9; (try dsimp only); (try k_fold))
  k_with "mine:usedN" => (intro _ _ _ _ _ _ _ _ _ _; (try dsimp only); (try k_fold))
  k_with "mine:forG" => (k_dflt (refine' For_G ?mqkF ?_; (case mqkF => k_asm)))
  k_with "mine:forT" => (k_dflt (refine' For_T ?mqkF ?_; (case mqkF => k_asm)))
  k_with "call type:type" => (k_here; (with_reducible show wpAny _ _ (call _ [Value.bytes _ _]) _ _ _); refine call_type_of (Tx := "bytes") rfl (by decide +kernel) ?_)
  k_with "pyIter bytes" => ((with_reducible show wpAny _ _ (pyIter (Value.bytes _ _)) (fun it s₂ => LoopAtV _ _ _ _ _ _ _ _ _ it s₂) _ _); k_here; k_bytesUnr)
  k_with "subscriptTail" => (k_here; (with_reducible show wpAny _ _ (subscriptTail (Expr.Name "_B64" _) _ (Value.bytes _ _) (Value.int _ _)) _ _ _); with_unfolding_all refine' b64_item ?mqh0 ?mqh1 (fun _ _ _ _ => ?_) ?mqhs ?mqht; (case mqh0 => first | assumption | exact Nat.le_trans (by assumption) (by decide) | omega); (case mqh1 => first | assumption | exact Nat.le_trans (by assumption) (by decide) | omega); (case mqhs => with_unfolding_all rfl); (case mqht => intro _; with_unfolding_all rfl))
  k_with "binaryOp RShift int int" => (k_here; first
  | (refine' rsh2 ?mqhn ?_; (case mqhn => first | assumption | exact Nat.le_trans (by assumption) (by decide) | omega))
  | (refine' rsh4 ?mqhn ?_; (case mqhn => first | assumption | exact Nat.le_trans (by assumption) (by decide) | omega)))
  k_with "binaryOp LShift int int" => (k_here; first
  | (refine' lsh_ 8 256 ?mqhn ?mqhk ?mqhP ?mqh0 ?mqh1 ?_; (case mqhn => decide); (case mqhk => decide); (case mqhP => decide); (case mqh0 => first | assumption | exact Nat.le_trans (by assumption) (by decide) | omega); (case mqh1 => first | assumption | exact Nat.le_trans (by assumption) (by decide) | omega))
  | (refine' lsh_ 6 64 ?mqhn ?mqhk ?mqhP ?mqh0 ?mqh1 ?_; (case mqhn => decide); (case mqhk => decide); (case mqhP => decide); (case mqh0 => first | assumption | exact Nat.le_trans (by assumption) (by decide) | omega); (case mqh1 => first | assumption | exact Nat.le_trans (by assumption) (by decide) | omega))
  | (refine' lsh_ 4 16 ?mqhn ?mqhk ?mqhP ?mqh0 ?mqh1 ?_; (case mqhn => decide); (case mqhk => decide); (case mqhP => decide); (case mqh0 => first | assumption | exact Nat.le_trans (by assumption) (by decide) | omega); (case mqh1 => first | assumption | exact Nat.le_trans (by assumption) (by decide) | omega))
  | (refine' lsh_ 2 4 ?mqhn ?mqhk ?mqhP ?mqh0 ?mqh1 ?_; (case mqhn => decide); (case mqhk => decide); (case mqhP => decide); (case mqh0 => first | assumption | exact Nat.le_trans (by assumption) (by decide) | omega); (case mqh1 => first | assumption | exact Nat.le_trans (by assumption) (by decide) | omega)))
  k_with "binaryOp BitOr int int" => (k_here; first
  | (refine' or_ 8 256 ?mqhP ?mqh0 ?mqh1 ?mqh2 ?_; (case mqhP => decide); (case mqh0 => first | assumption | exact Nat.le_trans (by assumption) (by decide) | omega); (case mqh1 => first | assumption | exact Nat.le_trans (by assumption) (by decide) | omega); (case mqh2 => first | assumption | exact Nat.le_trans (by assumption) (by decide) | omega))
  | (refine' or_ 6 64 ?mqhP ?mqh0 ?mqh1 ?mqh2 ?_; (case mqhP => decide); (case mqh0 => first | assumption | exact Nat.le_trans (by assumption) (by decide) | omega); (case mqh1 => first | assumption | exact Nat.le_trans (by assumption) (by decide) | omega); (case mqh2 => first | assumption | exact Nat.le_trans (by assumption) (by decide) | omega))
  | (refine' or_ 4 16 ?mqhP ?mqh0 ?mqh1 ?mqh2 ?_; (case mqhP => decide); (case mqh0 => first | assumption | exact Nat.le_trans (by assumption) (by decide) | omega); (case mqh1 => first | assumption | exact Nat.le_trans (by assumption) (by decide) | omega); (case mqh2 => first | assumption | exact Nat.le_trans (by assumption) (by decide) | omega))
  | (refine' or_ 2 4 ?mqhP ?mqh0 ?mqh1 ?mqh2 ?_; (case mqhP => decide); (case mqh0 => first | assumption | exact Nat.le_trans (by assumption) (by decide) | omega); (case mqh1 => first | assumption | exact Nat.le_trans (by assumption) (by decide) | omega); (case mqh2 => first | assumption | exact Nat.le_trans (by assumption) (by decide) | omega)))
  k_with "binaryOp BitAnd int int" => (k_here; first
  | refine and65535 ?_
  | refine and63 ?_
  | refine and15 ?_
  | refine and3 ?_)
  k_with "getMethod bytes" => (k_here; (with_reducible refine method_translate ?_))
  k_with "call builtin:bytes.translate" => (k_here; first
  | (refine' call_urlenc ?mqh1 ?mqh2 (fun _ _ => ?_); (case mqh1 => assumption); (case mqh2 => first | kernel_rfl | decide +kernel))
  | (refine' call_urldec ?mqh1 ?mqh2 (fun _ _ => ?_); (case mqh1 => assumption); (case mqh2 => first | kernel_rfl | decide +kernel)))
  k_with "call type:str" => (k_here; (with_reducible show wpAny _ _ (call (Value.type "str") [Value.bytes _ _, Value.str _ _]) _ _ _); first
  | (refine' call_strword0 ?mqh1 (fun _ _ => ?_); (case mqh1 => assumption))
  | (refine' call_strword ?mqh1 (fun _ _ => ?_); (case mqh1 => assumption)))
  k_with "getMethod str" => (k_here; first | with_reducible refine m_encode ?_ | with_reducible refine m_translate ?_)
  k_with "call builtin:str.encode" => (k_here; refine' call_encword ?mqh1 (fun _ _ => ?_); (case mqh1 => assumption))
  k_with "binaryOp Add str str" => (k_here; refine' add_SS ?mqhx ?mqhy ?mqhsz (fun _ _ => ?_); (case mqhx => first | rfl | exact ofS _ | exact S_of _); (case mqhy => first | rfl | exact ofS _ | exact S_of _); (case mqhsz => ((try simp only [List.length_append, List.length_cons, List.length_nil, List.length_replicate]); omega)))
  k_with "binaryOp Mult str int" => (k_here; refine' mul_S ?mqhx ?mqh0 ?mqh1 (fun _ _ => ?_); (case mqhx => exact ofS _); (case mqh0 => first | assumption | exact Nat.le_trans (by assumption) (by decide) | omega); (case mqh1 => first | assumption | exact Nat.le_trans (by assumption) (by decide) | omega))
  k_with "subscriptTail" => (k_here; (with_reducible show wpAny _ _ (subscriptTail _ _ (Value.str _ _) (Value.int _ _)) _ _ _); with_unfolding_all refine' item_S ?mqhx ?mqh0 ?mqh1 ?mqh2 (fun _ _ => ?_) ?mqhs ?mqht; (case mqhx => first | rfl | exact ofS _ | exact S_of _); (case mqh0 => ktr_rel); (case mqh1 => ktr_rel); (case mqh2 => ktr_rel); (case mqhs => with_unfolding_all rfl); (case mqht => intro _; with_unfolding_all rfl))
  k_with "eval Constant int" => (with_reducible refine const_i ?_)
  k_with "binaryOp Add int int" => (with_reducible refine add_i ?_)
  k_with "binaryOp Sub int int" => (with_reducible refine sub_i ?_)
  trivial
section
variable {prog : Program} {w : World} {A : Around} {E : Value → Shared → Prop} {s : Shared} {h₀ : Heap} {L D b : Addr} {m : Str → Option Value} {news news' : List (Addr × Obj)} {its : Array Value} {n : Nat} {x : Value} {Q : Value → Shared → Prop}
noncomputable def bmObj (D : Addr) : Obj := { cls := .type "builtin_function_or_method", data := .fields #[.builtin "list.append", .ref D] }
theorem bmK (F : Fr h₀ L s.heap m) (N : News h₀ L s.heap news) (hm : (D, W.listOf its n) ∈ news)
    (h : ∀ b h' tk, Fr h₀ L h' m → News h₀ L h' ((b, bmObj D) :: news) → (∀ p ∈ news, p.1 < b) → Q (.ref b) { s with heap := h', toks := tk }) : wpAny (model prog w) A (getAttr (.ref D) (Str.ofString "append") true) Q E s := by
  refine md_getAttr (N _ hm).1 fun tk => h _ _ tk (F.push _) (News.push F N _) fun p hp => Heap.lt_size (N p hp).1
theorem boundK (F : Fr h₀ L s.heap m) (N : News h₀ L s.heap news) (hb : (b, bmObj D) ∈ news) (U : Upd D (W.listOf its n) (W.listOf (its.push x) (n + 1)) news news')
    (h : ∀ h', Fr h₀ L h' m → News h₀ L h' news' → Q .none { s with heap := h' }) (hsz : its.size ≤ sizeLine) : wpAny (model prog w) A (call (.ref b) [x]) Q E s := by
  have zb := (N _ hb).1
  obtain ⟨pre, post, rfl, rfl, a, c⟩ := U.split
  have z := N (D, W.listOf its n) (List.mem_append.mpr (.inr (.head _)))
  exact bound_append z.1 zb (fun h' hs ho' => h h' (F.change hs z.2.1 z.2.2) (news_set N a c hs ho')) hsz
end
section
variable {M : Model} {A : Around} {E : Value → Shared → Prop} {s : Shared} {h₀ : Heap} {L u D : Addr} {m : Str → Option Value} {news : List (Addr × Obj)} {Q : Value → Shared → Prop}
noncomputable def StandsB (u D : Addr) (h : Heap) : Prop := h.get? u = some (bmObj D)
theorem standsB {h : Heap} (N : News h₀ L h news) (hm : (u, bmObj D) ∈ news) : StandsB u D h := N.get hm
theorem callWith_bmF {pos : Pos} {first : List Value} {args : List (Bool × Sem Value)} (hplain : args.any (·.1) = false)
    (h : wpAny M A (evalArgs (.ref u) true args []) (fun x s₁ => StandsB u D s₁.heap ∧ wpAny M A (call (.ref u) (first ++ x.pos) x.kw) Q E s₁) E s) : wpAny M A (callWith pos (.ref u) first args []) Q E s := by
  unfold callWith
  refine wpAny_bind (wpAny_holding (wpAny_mono h (fun x s₁ h₁ => wpAny_bind (wpAny_standAt ?_)) fun _ _ x => x))
  obtain ⟨ho, hcall⟩ := h₁
  simp only [hplain, List.any_nil, Bool.or_false]
  refine wpAny_bind (m := keeperOf (.ref u)) ?_
  unfold keeperOf
  refine wpAny_bind (wpAny_load ho ?_)
  simp only [bmObj, show (Value.type "builtin_function_or_method" != Value.type "method") = true by decide, show (Value.type "builtin_function_or_method" == Value.type "builtin_function_or_method" || Value.type "builtin_function_or_method" == Value.type "method-wrapper") = true by decide, if_true]
  refine wpAny_pure ?_
  exact wpAny_bind (wpAny_mono hcall (fun r s₂ hr => wpAny_bind (wpAny_holding (wpAny_point (wpAny_pure hr)))) fun _ _ x => x)
theorem callWith_bm {pos : Pos} {first : List Value} {env : Env} {e : PySem.Expr} {rest : List PySem.Expr} (_N : News h₀ L s.heap news) (_hm : (u, bmObj D) ∈ news)
    (h : wpAny M A (spliced (backTo pos (starEach (e :: rest) env))) (fun vs s₁ => StandsB u D s₁.heap ∧ wpAny M A (call (.ref u) (first ++ vs)) Q E s₁) E s)
    (he : starEach (e :: rest) env = (false, eval e env) :: starEach rest env := by rfl) (hplain : (backTo pos (starEach rest env)).any (·.1) = false := by rfl) :
    wpAny M A (callWith pos (.ref u) first (backTo pos (starEach (e :: rest) env)) []) Q E s := by
  rw [he] at h ⊢
  refine callWith_bmF (D := D) (by show (false || (backTo pos (starEach rest env)).any (·.1)) = false; rw [hplain]; rfl) ?_
  exact evalArgs_plain h
end
end
section
theorem kz_Lesc : True := by
  k_with_none
  k_with "mine:room" => (first | exact Room.lt (by assumption) | exact Room.lt (Room.deep (k := 1) (e := 0) (by assumption) (by decide)) | exact Room.lt (Room.deep (k := 1) (e := 0) (Room.deep (k := 1) (e := 1) (by assumption) (by decide)) (by decide)) | exact Room.deep (by assumption) (by decide) | ((with_reducible show Room _ _); unfold Room; decide) | ((with_reducible show Room _ _); unfold Room; simp only [depth_under_make, depth_under_kw, depth_in1, depth_deeper, depth_caller]; decide))
  k_with "mine:units" => (first | exact Units.deep (by assumption) (by decide) | exact Units.deep2 (by assumption) (by decide) | ((with_reducible show Units _ _); unfold Units; ktr_units))
  k_with "mine:all1" => (first | exact fnil | (refine fcons (by with_unfolding_all rfl) ?_; walk_at "mine:all1"))
  k_with "mine:allin" => (first | exact fnil | (refine fcons (by k_memK) ?_; walk_at "mine:allin") | (intro p9 h9; kst_mem))
  k_with "mine:all" => (first | exact fnil | (refine' fcons ?mqfa ?mqfb; (case mqfa => k_ne); (case mqfb => walk_at "mine:all")))
  k_with "mine:cell" => (first
  | (refine' callP ?mqk1 ?mqk2 ?mqk3 ?mqk5 ?mqkA ?mqkF ?mqkK ?mqk6 ?mqk7 ?mqk8 ?mqk9 ?mqkB ?_ ?mqc2 ?mqc3 ?mqc4 ?mqc5; (case mqkA => exact rfl); (case mqkF => exact rfl); (case mqkK => assumption); (case mqk1 => k_asm); (case mqk2 => k_asm); (case mqk3 => k_asm); (case mqk5 => k_asm); (case mqk6 => k_is); (case mqk7 => k_is); (case mqk8 => ktr_room); (case mqk9 => first | exact BindsTo.of_eq rfl | exact binds_K (by k_in) rfl (by k_is) rfl rfl rfl); (case mqc5 => decide); (case mqkB => exact locs rfl); (case mqc2 => exact rfl); (case mqc3 => exact rfl); (case mqc4 => exact rfl); k_whole; intro _ _ _ _ _ _ _ _ _ _; walk_at "mine:let"; (try dsimp only); (try k_fold); (try walk_at "mine:env"))
  | (refine' callPC ?mqk1 ?mqk2 ?mqk3 ?mqk5 ?mqkA ?mqkF ?mqkK ?mqk6 ?mqk7 ?mqk8 ?mqk9 ?mqkB ?mqkD ?_ ?mqc2 ?mqc3 ?mqc4; (case mqkA => exact rfl); (case mqkF => exact rfl); (case mqkK => assumption); (case mqk1 => k_asm); (case mqk2 => k_asm); (case mqk3 => k_asm); (case mqk5 => k_asm); (case mqk6 => k_is); (case mqk7 => k_is); (case mqk8 => ktr_room); (case mqk9 => first | exact BindsTo.of_eq rfl | exact binds_K (by k_in) rfl (by k_is) rfl rfl rfl); (case mqkB => exact rfl); (case mqkD => decide +kernel); (case mqc2 => exact rfl); (case mqc3 => exact rfl); (case mqc4 => exact rfl); k_whole; intro _ _ _ _ _ _ _ _ N' Y' _ _ _; walk_at "mine:let"; k_cells Y'; (try simp only [List.cons_append, List.nil_append] at N'); (try (revert N'; intro _)); (try dsimp only); (try k_fold); (try walk_at "mine:env")))
  k_with "call type:bytes" => (k_here; (with_reducible show wpAny _ _ (call (Value.type "bytes") [Value.ref _]) _ _ _); k_dflt (refine' KBa.make_K ?mqkbaF ?mqkbaN ?mqkbah ?mqkbal ?mqkbai ?mqkbar ?mqkban ?_; (case mqkbaF => k_asm); (case mqkbaN => k_asm); (case mqkbah => rfl); (case mqkbal => exact News.isList (by k_asm) (by k_mem)); (case mqkbai => first | exact IntsAre.cons _ _ (IntsAre.cons _ _ (IntsAre.cons _ _ (IntsAre.cons _ _ IntsAre.nil))) | exact IntsAre.cons _ _ (IntsAre.cons _ _ IntsAre.nil) | exact IntsAre.cons _ _ IntsAre.nil); (case mqkbar => (repeat (first | exact fnil | refine fcons ⟨by omega, by omega⟩ ?_))); (case mqkban => exact Nat.le_of_ble_eq_true rfl); k_whole); intro _ _ _ _ _ _)
  k_with "call type:list" => (k_here; (with_reducible show wpAny _ _ (call (Value.type "list") [Value.bytes _ _]) _ _ _); first
  | (k_dflt (refine' list_bytes1 ?mqk1 ?mqk2 ?mqk3 ?mqk4 ?_; (case mqk1 => k_asm); (case mqk2 => k_asm); (case mqk3 => rfl); (case mqk4 => assumption)); intro _ _ _ _ _ _ _ l1; (try k_lt l1); (try (revert l1; intro _)))
  | (k_dflt (refine' list_bytes2 ?mqk1 ?mqk2 ?mqk3 ?mqk4 ?_; (case mqk1 => k_asm); (case mqk2 => k_asm); (case mqk3 => rfl); (case mqk4 => assumption)); intro _ _ _ _ _ _ _ _ l1; (try k_lt l1); (try (revert l1; intro _))))
  k_with "exec For Name BinOp cons nil" => (k_here; (with_unfolding_all refine' For_invVF ?mqkF ?mqk1 ?mqk2 ?_; (case mqkF => k_asm); (case mqk1 => exact rfl); (case mqk2 => exact rfl); k_whole))
  k_with "mine:env" => ((show (let AA := _; let EE := _; wpAny _ AA (execs _ EE) _ _ _)); intro AA EE)
  k_with "mine:let" => ((rename Fr _ _ _ _ => lF'); refine fr_let lF' ?_; clear lF'; intro _ _)
  k_with "storeName" => (k_here; k_dflt (refine' storeM ?mqF ?mqN ?_ ?mqhk ?mqhx; (case mqF => k_asm); (case mqN => k_asm); (case mqhk => exact rfl); (case mqhx => exact rfl); k_whole); intro _ _ _ _ _; (try k_sweep))
  k_with "mine:turn" => (walk_at "mine:let"; (show wpAny _ _ _ _ _ _); k_fold)
  k_with "mine:led" => (intro p hp; revert p; repeat (first | exact fnil | refine fcons rfl ?_))
  k_with "mine:same" => ((try dsimp (config := { zetaDelta := true }) only); ksw_same)
  k_with "mine:used" => (intro _ _ _ _ _ _ r9; (obtain ⟨_, e9⟩ := r9); subst e9; (try dsimp only); (try k_fold))
  k_with "mine:usedN" => (intro _ _ _ _ _ _ _ _ _ _; (try dsimp only); (try k_fold))
  k_with "mine:forG" => (k_dflt (refine' For_G ?mqkF ?_; (case mqkF => k_asm)))
  k_with "mine:forT" => (k_dflt (refine' For_T ?mqkF ?_; (case mqkF => k_asm)))
  k_with "call type:type" => (k_here; (with_reducible show wpAny _ _ (call _ [Value.bytes _ _]) _ _ _); refine call_type_of (Tx := "bytes") rfl (by decide +kernel) ?_)
  k_with "pyIter bytes" => ((with_reducible show wpAny _ _ (pyIter (Value.bytes _ _)) (fun it s₂ => LoopAtV _ _ _ _ _ _ _ _ _ it s₂) _ _); k_here; k_bytesUnr)
  k_with "subscriptTail" => (k_here; (with_reducible show wpAny _ _ (subscriptTail (Expr.Name "_B64" _) _ (Value.bytes _ _) (Value.int _ _)) _ _ _); with_unfolding_all refine' b64_item ?mqh0 ?mqh1 (fun _ _ _ _ => ?_) ?mqhs ?mqht; (case mqh0 => first | assumption | exact Nat.le_trans (by assumption) (by decide) | omega); (case mqh1 => first | assumption | exact Nat.le_trans (by assumption) (by decide) | omega); (case mqhs => with_unfolding_all rfl); (case mqht => intro _; with_unfolding_all rfl))
  k_with "binaryOp RShift int int" => (k_here; first
  | (refine' rsh2 ?mqhn ?_; (case mqhn => first | assumption | exact Nat.le_trans (by assumption) (by decide) | omega))
  | (refine' rsh4 ?mqhn ?_; (case mqhn => first | assumption | exact Nat.le_trans (by assumption) (by decide) | omega)))
  k_with "binaryOp LShift int int" => (k_here; first
  | (refine' lsh_ 8 256 ?mqhn ?mqhk ?mqhP ?mqh0 ?mqh1 ?_; (case mqhn => decide); (case mqhk => decide); (case mqhP => decide); (case mqh0 => first | assumption | exact Nat.le_trans (by assumption) (by decide) | omega); (case mqh1 => first | assumption | exact Nat.le_trans (by assumption) (by decide) | omega))
  | (refine' lsh_ 6 64 ?mqhn ?mqhk ?mqhP ?mqh0 ?mqh1 ?_; (case mqhn => decide); (case mqhk => decide); (case mqhP => decide); (case mqh0 => first | assumption | exact Nat.le_trans (by assumption) (by decide) | omega); (case mqh1 => first | assumption | exact Nat.le_trans (by assumption) (by decide) | omega))
  | (refine' lsh_ 4 16 ?mqhn ?mqhk ?mqhP ?mqh0 ?mqh1 ?_; (case mqhn => decide); (case mqhk => decide); (case mqhP => decide); (case mqh0 => first | assumption | exact Nat.le_trans (by assumption) (by decide) | omega); (case mqh1 => first | assumption | exact Nat.le_trans (by assumption) (by decide) | omega))
  | (refine' lsh_ 2 4 ?mqhn ?mqhk ?mqhP ?mqh0 ?mqh1 ?_; (case mqhn => decide); (case mqhk => decide); (case mqhP => decide); (case mqh0 => first | assumption | exact Nat.le_trans (by assumption) (by decide) | omega); (case mqh1 => first | assumption | exact Nat.le_trans (by assumption) (by decide) | omega)))
  k_with "binaryOp BitOr int int" => (k_here; first
  | (refine' or_ 8 256 ?mqhP ?mqh0 ?mqh1 ?mqh2 ?_; (case mqhP => decide); (case mqh0 => first | assumption | exact Nat.le_trans (by assumption) (by decide) | omega); (case mqh1 => first | assumption | exact Nat.le_trans (by assumption) (by decide) | omega); (case mqh2 => first | assumption | exact Nat.le_trans (by assumption) (by decide) | omega))
  | (refine' or_ 6 64 ?mqhP ?mqh0 ?mqh1 ?mqh2 ?_; (case mqhP => decide); (case mqh0 => first | assumption | exact Nat.le_trans (by assumption) (by decide) | omega); (case mqh1 => first | assumption | exact Nat.le_trans (by assumption) (by decide) | omega); (case mqh2 => first | assumption | exact Nat.le_trans (by assumption) (by decide) | omega))
  | (refine' or_ 4 16 ?mqhP ?mqh0 ?mqh1 ?mqh2 ?_; (case mqhP => decide); (case mqh0 => first | assumption | exact Nat.le_trans (by assumption) (by decide) | omega); (case mqh1 => first | assumption | exact Nat.le_trans (by assumption) (by decide) | omega); (case mqh2 => first | assumption | exact Nat.le_trans (by assumption) (by decide) | omega))
  | (refine' or_ 2 4 ?mqhP ?mqh0 ?mqh1 ?mqh2 ?_; (case mqhP => decide); (case mqh0 => first | assumption | exact Nat.le_trans (by assumption) (by decide) | omega); (case mqh1 => first | assumption | exact Nat.le_trans (by assumption) (by decide) | omega); (case mqh2 => first | assumption | exact Nat.le_trans (by assumption) (by decide) | omega)))
  k_with "binaryOp BitAnd int int" => (k_here; first
  | refine and65535 ?_
  | refine and63 ?_
  | refine and15 ?_
  | refine and3 ?_)
  k_with "getMethod bytes" => (k_here; (with_reducible refine method_translate ?_))
  k_with "call builtin:bytes.translate" => (k_here; first
  | (refine' call_urlenc ?mqh1 ?mqh2 (fun _ _ => ?_); (case mqh1 => assumption); (case mqh2 => first | kernel_rfl | decide +kernel))
  | (refine' call_urldec ?mqh1 ?mqh2 (fun _ _ => ?_); (case mqh1 => assumption); (case mqh2 => first | kernel_rfl | decide +kernel)))
  k_with "call type:str" => (k_here; (with_reducible show wpAny _ _ (call (Value.type "str") [Value.bytes _ _, Value.str _ _]) _ _ _); first
  | (refine' call_strword0 ?mqh1 (fun _ _ => ?_); (case mqh1 => assumption))
  | (refine' call_strword ?mqh1 (fun _ _ => ?_); (case mqh1 => assumption)))
  k_with "getMethod str" => (k_here; first | with_reducible refine m_encode ?_ | with_reducible refine m_translate ?_)
  k_with "call builtin:str.encode" => (k_here; refine' call_encword ?mqh1 (fun _ _ => ?_); (case mqh1 => assumption))
  k_with "binaryOp Add str str" => (k_here; refine' add_SS ?mqhx ?mqhy ?mqhsz (fun _ _ => ?_); (case mqhx => first | rfl | exact ofS _ | exact S_of _); (case mqhy => first | rfl | exact ofS _ | exact S_of _); (case mqhsz => ((try simp only [List.length_append, List.length_cons, List.length_nil, List.length_replicate]); omega)))
  k_with "binaryOp Mult str int" => (k_here; refine' mul_S ?mqhx ?mqh0 ?mqh1 (fun _ _ => ?_); (case mqhx => exact ofS _); (case mqh0 => first | assumption | exact Nat.le_trans (by assumption) (by decide) | omega); (case mqh1 => first | assumption | exact Nat.le_trans (by assumption) (by decide) | omega))
  k_with "subscriptTail" => (k_here; (with_reducible show wpAny _ _ (subscriptTail _ _ (Value.str _ _) (Value.int _ _)) _ _ _); with_unfolding_all refine' item_S ?mqhx ?mqh0 ?mqh1 ?mqh2 (fun _ _ => ?_) ?mqhs ?mqht; (case mqhx => first | rfl | exact ofS _ | exact S_of _); (case mqh0 => ktr_rel); (case mqh1 => ktr_rel); (case mqh2 => ktr_rel); (case mqhs => with_unfolding_all rfl); (case mqht => intro _; with_unfolding_all rfl))
  k_with "eval Constant int" => (with_reducible refine const_i ?_)
  k_with "binaryOp Add int int" => (with_reducible refine add_i ?_)
  k_with "binaryOp Sub int int" => (with_reducible refine sub_i ?_)
  trivial
theorem kw_Jx26 : True := by
  k_with "eval ListComp" => (k_here; k_dflt (refine ListComp_G (_F₀ := by k_asm) (by with_unfolding_all rfl) (by decide) (by rfl) (by decide) (by rfl) ?_))
  trivial
noncomputable def lesc1 (c : Nat) : List Nat := if c = 43 ∨ c = 45 then [92, c] else [c]
noncomputable def lesc (l : List Nat) : List Nat := l.flatMap lesc1
theorem pm_occ : ∀ c < 128, (Builtin.Str.occurrences (Str.ofString "+-") { cps := #[c] } 0 (Str.ofString "+-").length 1).isEmpty = !(c == 43 || c == 45) := by decide +kernel
theorem lesc_len (l : List Nat) : ((l.map lesc1).map List.length).sum ≤ 2 * l.length := by
  induction l with
  | nil => exact Nat.le_refl _
  | cons c r ih =>
    have : (lesc1 c).length ≤ 2 := by unfold lesc1; split <;> simp
    simp only [List.map_cons, List.sum_cons, List.length_cons]; omega
theorem kw_Jx27 : True := by
  k_with "pyIter str" => (k_here; (with_reducible show wpAny _ _ (pyIter (Value.str _ _)) (SrcG _ _ _ _ _ _ _ _ _ _ _ _) _ _); k_dflt (refine src_str (by rfl) (by k_asm) (by k_asm) (by assumption) (by assumption) ?_; intro _))
  trivial
theorem kw_Jx28 : True := by
  k_with "call builtin:str.join" => (k_here; k_dflt (refine' join_S ?mqhx ?mqhl ?mqhi ?mqhs (fun _ _ => ?_); (case mqhx => rfl); (case mqhl => exact News.isList (by k_asm) (by k_mem)); (case mqhi => assumption); (case mqhs => assumption)))
  trivial
theorem c_lesc (w : World) (l : List Nat) (hl : ∀ c ∈ l, c < 128) (hsz : l.length ≤ 10000) (t : Tok) :
    Spec w 6 207 [.str (S l) t] [] (fun _ => True) (fun _ _ v => ∃ t, v = .str (S (lesc l)) t) := by
  have ha : (S l).cps.all (· < 128) = true := by simpa [S] using hl
  have hz : (S l).cps.size ≤ sizeLine := by rw [sizeLine_eq]; simp [S]; omega
  unfold Spec
  k_fill
  intros; rename_i hret
  refine wpAny_call ?_
  k_dflt cell_enter
  rename _ = Shared.heap _ => hgg
  k_steps
  refine rest_inv (V := StrAt (l.map lesc1)) ?_ ?_
  · intro i v ys I oI C oC D m₂ h tk E' hi hv hC hx F N off ne
    obtain ⟨c, u, hc, rfl⟩ := hv
    have hc' : l[i]? = some c := by simpa [S] using hc
    have hp := pm_occ c (hl c (List.mem_of_getElem? hc'))
    have hA : (l.map lesc1)[i]? = some (lesc1 c) := by rw [List.getElem?_map, hc']; rfl
    k_steps
    · rename_i hq
      rw [hq] at hp
      have hn : lesc1 c = [c] := if_neg fun hx => by rcases hx with rfl | rfl <;> simp at hp
      exact ⟨rfl, _, _, hA, by rw [hn]; rfl⟩
    · rename List.isEmpty _ = false => hq
      rw [hq] at hp
      have hn : lesc1 c = [92, c] := if_pos (by
        have : (c == 43 || c == 45) = true := by cases h : (c == 43 || c == 45) <;> simp_all
        rcases (Bool.or_eq_true _ _).mp this with h | h
        · exact .inl (eq_of_beq h)
        · exact .inr (eq_of_beq h))
      exact ⟨rfl, _, _, hA, by rw [hn]; rfl⟩
  · intro ys hys hV
    have hss := strs_at (ls := l.map lesc1) (by rw [hys]; simp [S]) hV
    have hz2 := lesc_len l
    have hz3 : ((l.map lesc1).map List.length).sum ≤ 1000000 := by omega
    intro D h tk F N off
    k_steps
    exact hret _ _ _ (by rw [← hgg]; assumption) ⟨_, rfl⟩
end
section
theorem kz_Ltx : True := by
  k_with_none
  k_with "mine:room" => (first | exact Room.lt (by assumption) | exact Room.lt (Room.deep (k := 1) (e := 0) (by assumption) (by decide)) | exact Room.lt (Room.deep (k := 1) (e := 0) (Room.deep (k := 1) (e := 1) (by assumption) (by decide)) (by decide)) | exact Room.deep (by assumption) (by decide) | ((with_reducible show Room _ _); unfold Room; decide) | ((with_reducible show Room _ _); unfold Room; simp only [depth_under_make, depth_under_kw, depth_in1, depth_deeper, depth_caller]; decide))
  k_with "mine:units" => (first | exact Units.deep (by assumption) (by decide) | exact Units.deep2 (by assumption) (by decide) | ((with_reducible show Units _ _); unfold Units; ktr_units))
  k_with "mine:all1" => (first | exact fnil | (refine fcons (by with_unfolding_all rfl) ?_; walk_at "mine:all1"))
  k_with "mine:allin" => (first | exact fnil | (refine fcons (by k_memK) ?_; walk_at "mine:allin") | (intro p9 h9; kst_mem))
  k_with "mine:all" => (first | exact fnil | (refine' fcons ?mqfa ?mqfb; (case mqfa => k_ne); (case mqfb => walk_at "mine:all")))
  k_with "mine:cell" => (first
  | (refine' callP ?mqk1 ?mqk2 ?mqk3 ?mqk5 ?mqkA ?mqkF ?mqkK ?mqk6 ?mqk7 ?mqk8 ?mqk9 ?mqkB ?_ ?mqc2 ?mqc3 ?mqc4 ?mqc5; (case mqkA => exact rfl); (case mqkF => exact rfl); (case mqkK => assumption); (case mqk1 => k_asm); (case mqk2 => k_asm); (case mqk3 => k_asm); (case mqk5 => k_asm); (case mqk6 => k_is); (case mqk7 => k_is); (case mqk8 => ktr_room); (case mqk9 => first | exact BindsTo.of_eq rfl | exact binds_K (by k_in) rfl (by k_is) rfl rfl rfl); (case mqc5 => decide); (case mqkB => exact locs rfl); (case mqc2 => exact rfl); (case mqc3 => exact rfl); (case mqc4 => exact rfl); k_whole; intro _ _ _ _ _ _ _ _ _ _; walk_at "mine:let"; (try dsimp only); (try k_fold); (try walk_at "mine:env"))
  | (refine' callPC ?mqk1 ?mqk2 ?mqk3 ?mqk5 ?mqkA ?mqkF ?mqkK ?mqk6 ?mqk7 ?mqk8 ?mqk9 ?mqkB ?mqkD ?_ ?mqc2 ?mqc3 ?mqc4; (case mqkA => exact rfl); (case mqkF => exact rfl); (case mqkK => assumption); (case mqk1 => k_asm); (case mqk2 => k_asm); (case mqk3 => k_asm); (case mqk5 => k_asm); (case mqk6 => k_is); (case mqk7 => k_is); (case mqk8 => ktr_room); (case mqk9 => first | exact BindsTo.of_eq rfl | exact binds_K (by k_in) rfl (by k_is) rfl rfl rfl); (case mqkB => exact rfl); (case mqkD => decide +kernel); (case mqc2 => exact rfl); (case mqc3 => exact rfl); (case mqc4 => exact rfl); k_whole; intro _ _ _ _ _ _ _ _ N' Y' _ _ _; walk_at "mine:let"; k_cells Y'; (try simp only [List.cons_append, List.nil_append] at N'); (try (revert N'; intro _)); (try dsimp only); (try k_fold); (try walk_at "mine:env")))
  k_with "call type:bytes" => (k_here; (with_reducible show wpAny _ _ (call (Value.type "bytes") [Value.ref _]) _ _ _); k_dflt (refine' KBa.make_K ?mqkbaF ?mqkbaN ?mqkbah ?mqkbal ?mqkbai ?mqkbar ?mqkban ?_; (case mqkbaF => k_asm); (case mqkbaN => k_asm); (case mqkbah => rfl); (case mqkbal => exact News.isList (by k_asm) (by k_mem)); (case mqkbai => first | exact IntsAre.cons _ _ (IntsAre.cons _ _ (IntsAre.cons _ _ (IntsAre.cons _ _ IntsAre.nil))) | exact IntsAre.cons _ _ (IntsAre.cons _ _ IntsAre.nil) | exact IntsAre.cons _ _ IntsAre.nil); (case mqkbar => (repeat (first | exact fnil | refine fcons ⟨by omega, by omega⟩ ?_))); (case mqkban => exact Nat.le_of_ble_eq_true rfl); k_whole); intro _ _ _ _ _ _)
  k_with "call type:list" => (k_here; (with_reducible show wpAny _ _ (call (Value.type "list") [Value.bytes _ _]) _ _ _); first
  | (k_dflt (refine' list_bytes1 ?mqk1 ?mqk2 ?mqk3 ?mqk4 ?_; (case mqk1 => k_asm); (case mqk2 => k_asm); (case mqk3 => rfl); (case mqk4 => assumption)); intro _ _ _ _ _ _ _ l1; (try k_lt l1); (try (revert l1; intro _)))
  | (k_dflt (refine' list_bytes2 ?mqk1 ?mqk2 ?mqk3 ?mqk4 ?_; (case mqk1 => k_asm); (case mqk2 => k_asm); (case mqk3 => rfl); (case mqk4 => assumption)); intro _ _ _ _ _ _ _ _ l1; (try k_lt l1); (try (revert l1; intro _))))
  k_with "exec For Name BinOp cons nil" => (k_here; (with_unfolding_all refine' For_invVF ?mqkF ?mqk1 ?mqk2 ?_; (case mqkF => k_asm); (case mqk1 => exact rfl); (case mqk2 => exact rfl); k_whole))
  k_with "mine:env" => ((show (let AA := _; let EE := _; wpAny _ AA (execs _ EE) _ _ _)); intro AA EE)
  k_with "mine:let" => ((rename Fr _ _ _ _ => lF'); refine fr_let lF' ?_; clear lF'; intro _ _)
  k_with "storeName" => (k_here; k_dflt (refine' storeM ?mqF ?mqN ?_ ?mqhk ?mqhx; (case mqF => k_asm); (case mqN => k_asm); (case mqhk => exact rfl); (case mqhx => exact rfl); k_whole); intro _ _ _ _ _; (try k_sweep))
  k_with "mine:turn" => (walk_at "mine:let"; (show wpAny _ _ _ _ _ _); k_fold)
  k_with "mine:led" => (intro p hp; revert p; repeat (first | exact fnil | refine fcons rfl ?_))
  k_with "mine:same" => ((try dsimp (config := { zetaDelta := true }) only); ksw_same)
  k_with "mine:used" => (intro _ _ _ _ _ _ r9; (obtain ⟨_, e9⟩ := r9); subst e9; (try dsimp only); (try k_fold))
  k_with "mine:usedN" => (intro _ _ _ _ _ _ _ _ _ _; (try dsimp only); (try k_fold))
  k_with "mine:forG" => (k_dflt (refine' For_G ?mqkF ?_; (case mqkF => k_asm)))
  k_with "mine:forT" => (k_dflt (refine' For_T ?mqkF ?_; (case mqkF => k_asm)))
  k_with "call type:type" => (k_here; (with_reducible show wpAny _ _ (call _ [Value.bytes _ _]) _ _ _); refine call_type_of (Tx := "bytes") rfl (by decide +kernel) ?_)
  k_with "pyIter bytes" => ((with_reducible show wpAny _ _ (pyIter (Value.bytes _ _)) (fun it s₂ => LoopAtV _ _ _ _ _ _ _ _ _ it s₂) _ _); k_here; k_bytesUnr)
  k_with "subscriptTail" => (k_here; (with_reducible show wpAny _ _ (subscriptTail (Expr.Name "_B64" _) _ (Value.bytes _ _) (Value.int _ _)) _ _ _); with_unfolding_all refine' b64_item ?mqh0 ?mqh1 (fun _ _ _ _ => ?_) ?mqhs ?mqht; (case mqh0 => first | assumption | exact Nat.le_trans (by assumption) (by decide) | omega); (case mqh1 => first | assumption | exact Nat.le_trans (by assumption) (by decide) | omega); (case mqhs => with_unfolding_all rfl); (case mqht => intro _; with_unfolding_all rfl))
  k_with "binaryOp RShift int int" => (k_here; first
  | (refine' rsh2 ?mqhn ?_; (case mqhn => first | assumption | exact Nat.le_trans (by assumption) (by decide) | omega))
  | (refine' rsh4 ?mqhn ?_; (case mqhn => first | assumption | exact Nat.le_trans (by assumption) (by decide) | omega)))
  k_with "binaryOp LShift int int" => (k_here; first
  | (refine' lsh_ 8 256 ?mqhn ?mqhk ?mqhP ?mqh0 ?mqh1 ?_; (case mqhn => decide); (case mqhk => decide); (case mqhP => decide); (case mqh0 => first | assumption | exact Nat.le_trans (by assumption) (by decide) | omega); (case mqh1 => first | assumption | exact Nat.le_trans (by assumption) (by decide) | omega))
  | (refine' lsh_ 6 64 ?mqhn ?mqhk ?mqhP ?mqh0 ?mqh1 ?_; (case mqhn => decide); (case mqhk => decide); (case mqhP => decide); (case mqh0 => first | assumption | exact Nat.le_trans (by assumption) (by decide) | omega); (case mqh1 => first | assumption | exact Nat.le_trans (by assumption) (by decide) | omega))
  | (refine' lsh_ 4 16 ?mqhn ?mqhk ?mqhP ?mqh0 ?mqh1 ?_; (case mqhn => decide); (case mqhk => decide); (case mqhP => decide); (case mqh0 => first | assumption | exact Nat.le_trans (by assumption) (by decide) | omega); (case mqh1 => first | assumption | exact Nat.le_trans (by assumption) (by decide) | omega))
  | (refine' lsh_ 2 4 ?mqhn ?mqhk ?mqhP ?mqh0 ?mqh1 ?_; (case mqhn => decide); (case mqhk => decide); (case mqhP => decide); (case mqh0 => first | assumption | exact Nat.le_trans (by assumption) (by decide) | omega); (case mqh1 => first | assumption | exact Nat.le_trans (by assumption) (by decide) | omega)))
  k_with "binaryOp BitOr int int" => (k_here; first
  | (refine' or_ 8 256 ?mqhP ?mqh0 ?mqh1 ?mqh2 ?_; (case mqhP => decide); (case mqh0 => first | assumption | exact Nat.le_trans (by assumption) (by decide) | omega); (case mqh1 => first | assumption | exact Nat.le_trans (by assumption) (by decide) | omega); (case mqh2 => first | assumption | exact Nat.le_trans (by assumption) (by decide) | omega))
  | (refine' or_ 6 64 ?mqhP ?mqh0 ?mqh1 ?mqh2 ?_; (case mqhP => decide); (case mqh0 => first | assumption | exact Nat.le_trans (by assumption) (by decide) | omega); (case mqh1 => first | assumption | exact Nat.le_trans (by assumption) (by decide) | omega); (case mqh2 => first | assumption | exact Nat.le_trans (by assumption) (by decide) | omega))
  | (refine' or_ 4 16 ?mqhP ?mqh0 ?mqh1 ?mqh2 ?_; (case mqhP => decide); (case mqh0 => first | assumption | exact Nat.le_trans (by assumption) (by decide) | omega); (case mqh1 => first | assumption | exact Nat.le_trans (by assumption) (by decide) | omega); (case mqh2 => first | assumption | exact Nat.le_trans (by assumption) (by decide) | omega))
  | (refine' or_ 2 4 ?mqhP ?mqh0 ?mqh1 ?mqh2 ?_; (case mqhP => decide); (case mqh0 => first | assumption | exact Nat.le_trans (by assumption) (by decide) | omega); (case mqh1 => first | assumption | exact Nat.le_trans (by assumption) (by decide) | omega); (case mqh2 => first | assumption | exact Nat.le_trans (by assumption) (by decide) | omega)))
  k_with "binaryOp BitAnd int int" => (k_here; first
  | refine and65535 ?_
  | refine and63 ?_
  | refine and15 ?_
  | refine and3 ?_)
  k_with "getMethod bytes" => (k_here; (with_reducible refine method_translate ?_))
  k_with "call builtin:bytes.translate" => (k_here; first
  | (refine' call_urlenc ?mqh1 ?mqh2 (fun _ _ => ?_); (case mqh1 => assumption); (case mqh2 => first | kernel_rfl | decide +kernel))
  | (refine' call_urldec ?mqh1 ?mqh2 (fun _ _ => ?_); (case mqh1 => assumption); (case mqh2 => first | kernel_rfl | decide +kernel)))
  k_with "call type:str" => (k_here; (with_reducible show wpAny _ _ (call (Value.type "str") [Value.bytes _ _, Value.str _ _]) _ _ _); first
  | (refine' call_strword0 ?mqh1 (fun _ _ => ?_); (case mqh1 => assumption))
  | (refine' call_strword ?mqh1 (fun _ _ => ?_); (case mqh1 => assumption)))
  k_with "getMethod str" => (k_here; first | with_reducible refine m_encode ?_ | with_reducible refine m_translate ?_)
  k_with "call builtin:str.encode" => (k_here; refine' call_encword ?mqh1 (fun _ _ => ?_); (case mqh1 => assumption))
  k_with "binaryOp Add str str" => (k_here; refine' add_SS ?mqhx ?mqhy ?mqhsz (fun _ _ => ?_); (case mqhx => first | rfl | exact ofS _ | exact S_of _); (case mqhy => first | rfl | exact ofS _ | exact S_of _); (case mqhsz => ((try simp only [List.length_append, List.length_cons, List.length_nil, List.length_replicate]); omega)))
  k_with "binaryOp Mult str int" => (k_here; refine' mul_S ?mqhx ?mqh0 ?mqh1 (fun _ _ => ?_); (case mqhx => exact ofS _); (case mqh0 => first | assumption | exact Nat.le_trans (by assumption) (by decide) | omega); (case mqh1 => first | assumption | exact Nat.le_trans (by assumption) (by decide) | omega))
  k_with "subscriptTail" => (k_here; (with_reducible show wpAny _ _ (subscriptTail _ _ (Value.str _ _) (Value.int _ _)) _ _ _); with_unfolding_all refine' item_S ?mqhx ?mqh0 ?mqh1 ?mqh2 (fun _ _ => ?_) ?mqhs ?mqht; (case mqhx => first | rfl | exact ofS _ | exact S_of _); (case mqh0 => ktr_rel); (case mqh1 => ktr_rel); (case mqh2 => ktr_rel); (case mqhs => with_unfolding_all rfl); (case mqht => intro _; with_unfolding_all rfl))
  k_with "eval Constant int" => (with_reducible refine const_i ?_)
  k_with "binaryOp Add int int" => (with_reducible refine add_i ?_)
  k_with "binaryOp Sub int int" => (with_reducible refine sub_i ?_)
  trivial
theorem kw_Jx29 : True := by
  k_with "eval ListComp" => (k_here; first
  | ((with_reducible show wpAny _ _ (eval (PySem.Expr.ListComp _ [⟨PySem.Expr.Name _ _, _, [], 0⟩] _ _) _) _ _ _); k_dflt (refine ListComp_G (_F₀ := by k_asm) (by with_unfolding_all rfl) (by decide) (by rfl) (by decide) (by rfl) ?_))
  | ((with_reducible show wpAny _ _ (eval (PySem.Expr.ListComp _ [⟨PySem.Expr.Name _ _, _, [_], 0⟩] _ _) _) _ _ _); k_dflt (refine LCt.ListComp_T (F₀ := by k_asm) (by with_unfolding_all rfl) (by decide) (by rfl) (by decide) (by rfl) ?_)))
  trivial
theorem kw_Jx30 : True := by
  k_with "CompSrcT" => (k_here; k_dflt (refine LCt.CompSrcT.ledger (by rfl) (by k_asm) (by k_asm) (by k_mem) (by assumption) ?_))
  trivial
theorem kw_Jx31 : True := by
  k_with "call builtin:len" => (k_here; k_dflt (refine' len_SL ?mqhl ?mqhi ?mqhz (fun _ _ => ?_); (case mqhl => kmk_list); (case mqhi => assumption); (case mqhz => first | assumption | exact Nat.le_trans (by assumption) (by decide) | omega)))
  trivial
theorem kw_Jx32 : True := by
  k_with "subscriptTail" => (k_here; (with_reducible show wpAny _ _ (subscriptTail _ _ (Value.ref _) (Value.int _ _)) _ _ _); first
  | (k_dflt (refine' item_SL ?mqhl ?mqhi ?mqhz ?mqh0 ?mqh1 (fun t' => ?_) ?mqhs ?mqht; (case mqhl => kmk_list); (case mqhi => assumption); (case mqhz => first | assumption | exact Nat.le_trans (by assumption) (by decide) | omega); (case mqh0 => first | assumption | exact Nat.le_trans (by assumption) (by decide) | omega); (case mqh1 => first | assumption | exact Nat.le_trans (by assumption) (by decide) | omega)); (case mqhs => with_unfolding_all rfl); (case mqht => intro _; with_unfolding_all rfl))
  | ((with_reducible show wpAny _ _ (subscriptTail _ _ (Value.ref _) (Value.int (-1) _)) _ _ _); k_dflt (refine' item_SLn ?mqhl ?mqhi ?mqhz ?mqh1 (fun _ => ?_) ?mqhs ?mqht; (case mqhl => kmk_list); (case mqhi => assumption); (case mqhz => first | assumption | exact Nat.le_trans (by assumption) (by decide) | omega); (case mqh1 => first | assumption | exact Nat.le_trans (by assumption) (by decide) | omega)); (case mqhs => with_unfolding_all rfl); (case mqht => intro _; with_unfolding_all rfl)); (try (revert t'; intro _)))
  trivial
theorem kw_Jx33 : True := by
  k_with "call builtin:str.join" => (k_here; k_dflt (refine' join_S ?mqhx ?mqhl ?mqhi ?mqhs (fun _ _ => ?_); (case mqhx => rfl); (case mqhl => kmk_list); (case mqhi => assumption); (case mqhs => assumption)))
  trivial
theorem kw_Jx34 : True := by
  k_with "call builtin:list.append" => (k_here; (with_reducible show wpAny _ _ (call (Value.builtin _) [Value.ref _, _]) _ _ _); k_dflt (refine' append_K ?mqk1 ?mqk2 ?mqk3 ?_ ?mqz; (case mqk1 => k_asm); (case mqk2 => k_asm); (case mqk3 => k_upd); (case mqz => assumption); k_whole); intro _ _ _)
  trivial
theorem kw_Jx35 : True := by
  k_with "setItem ref int" => (k_here; first
  | ((with_reducible show wpAny _ _ (setItem _ (Value.int (-1) _) _) _ _ _); k_dflt (refine' set_last ?mqk1 ?mqk2 ?mqk3 ?mqz ?_; (case mqk1 => k_asm); (case mqk2 => k_asm); (case mqk3 => k_upd); (case mqz => first | assumption | exact Nat.le_trans (by assumption) (by decide) | omega)); intro h' F' N')
  | (k_dflt (refine' set_nat ?mqk1 ?mqk2 ?mqk3 ?mqz0 ?mqz1 ?mqz ?_; (case mqk1 => k_asm); (case mqk2 => k_asm); (case mqk3 => k_upd); (case mqz0 => first | assumption | exact Nat.le_trans (by assumption) (by decide) | omega); (case mqz1 => first | assumption | exact Nat.le_trans (by assumption) (by decide) | omega); (case mqz => first | assumption | exact Nat.le_trans (by assumption) (by decide) | omega)); intro _ _ _); (try (revert h'; intro _)); (try (revert F'; intro _)); (try (revert N'; intro _)))
  trivial
theorem kw_Jx36 : True := by
  k_with "subscriptTail" => (k_here; (with_reducible show wpAny _ _ (subscriptTail _ _ (Value.str _ _) (Value.int (-1) _)) _ _ _); with_unfolding_all refine' item_Sn ?mqhx ?mqh1 ?mqh2 (fun _ _ => ?_) ?mqhs ?mqht; (case mqhx => first | rfl | exact ofS _ | exact S_of _); (case mqh1 => first | assumption | exact Nat.le_trans (by assumption) (by decide) | omega); (case mqh2 => first | assumption | exact Nat.le_trans (by assumption) (by decide) | omega); (case mqhs => with_unfolding_all rfl); (case mqht => intro _; with_unfolding_all rfl))
  trivial

open LCg
noncomputable def wrap (p : List Nat) : List Nat := (lit "(?>.*?" ++ p) ++ lit ")"
noncomputable def mids (ls : List (List Nat)) : List (List Nat) := ((ls.drop 1).take (ls.length - 2)).map wrap
noncomputable def lawText (ls : List (List Nat)) : List Nat := if ls.length = 1 then lit ".*" ++ ls.getD 0 [] else ((ls.getD 0 [] ++ (mids ls).flatten) ++ lit ".*") ++ ls.getD (ls.length - 1) []
theorem wrap_len (p : List Nat) : (wrap p).length = p.length + 7 := by
  have e1 : (lit "(?>.*?").length = 6 := by decide +kernel
  have e2 : (lit ")").length = 1 := by decide +kernel
  simp only [wrap, List.length_append, e1, e2]; omega
theorem wraps_len : ∀ ls : List (List Nat), ((ls.map wrap).map List.length).sum = (ls.map List.length).sum + 7 * ls.length
  | [] => rfl
  | a :: r => by simp only [List.map_cons, List.sum_cons, wraps_len r, wrap_len, List.length_cons]; omega
theorem mids_len (ls : List (List Nat)) : ((mids ls).map List.length).sum ≤ (ls.map List.length).sum + 7 * ls.length := by
  unfold mids
  rw [wraps_len]
  have h1 := sum_take (ls.drop 1) (ls.length - 2)
  have h2 := sum_drop ls 1
  have h3 : ((ls.drop 1).take (ls.length - 2)).length ≤ ls.length := by rw [List.length_take, List.length_drop]; exact Nat.le_trans (Nat.min_le_left _ _) (Nat.sub_le _ _)
  omega
theorem ltx_q {x n : Nat} (e : x = min (n - 2) (n - 1)) (h : n ≤ 1000) : x ≤ 100000 := e ▸ Nat.le_trans (Nat.min_le_left _ _) (Nat.le_trans (Nat.sub_le _ _) (Nat.le_trans h (by decide)))
theorem flat_len (ls : List (List Nat)) : ls.flatten.length = (ls.map List.length).sum := by rw [List.length_flatten]
theorem kw_Jx37 : True := by
  k_with "subscriptTail Name Slice ref ref" => (k_here; k_dflt (refine' slice_mid ?mqF ?mqN ?mqhl ?mqhi ?mqhz ?mqh1 (fun _ _ _ _ _ _ _ => ?_) ?mqhs ?mqht; (case mqF => k_asm); (case mqN => k_asm); (case mqhl => kmk_list); (case mqhi => assumption); (case mqhz => first | assumption | exact Nat.le_trans (by assumption) (by decide) | omega); (case mqh1 => first | assumption | exact Nat.le_trans (by assumption) (by decide) | omega); (case mqhs => with_unfolding_all rfl); (case mqht => kmk_pure)))
  trivial
theorem kw_Jx38 : True := by
  k_with "pyIter ref" => (k_here; (with_reducible show wpAny _ _ (pyIter (Value.ref _)) (SrcG _ _ _ _ _ _ _ _ _ _ _ _) _ _); k_dflt (refine src_SL (by rfl) (by k_asm) (by k_asm) (.inr ⟨_, by k_mem, rfl, _, rfl⟩) ?_ ?_; (focus rename StrsAre _ (List.map S (List.take _ _)) => hq; have := strs_len hq; simp only [List.length_take, List.length_drop] at this; first | exact ltx_q this (by assumption) | omega); intro _))
  trivial
theorem c_ltx (w : World) (D : Addr) (vs : List Value) (ls : List (List Nat)) (hi : StrsAre vs (ls.map S)) (h1 : 1 ≤ ls.length) (h2 : ls.length ≤ 1000) (h3 : (ls.map List.length).sum ≤ 20000) :
    Spec w 6 212 [.ref D] [] (fun h => h.IsList D vs.toArray) (fun _ _ v => ∃ t, v = .str (S (lawText ls)) t) := by
  have l1 : (lit ".*").length = 2 := by decide +kernel
  have l2 : (lit "(?>.*?").length = 6 := by decide +kernel
  have l3 : (lit ")").length = 1 := by decide +kernel
  have b0 : (ls.getD (Int.toNat 0) []).length ≤ (ls.map List.length).sum := sum_getD ls 0
  have b1 := sum_getD ls (ls.length - 1)
  have b2 := mids_len ls
  have b3 := flat_len (mids ls)
  have b4 : ((mids ls).map List.length).sum ≤ 1000000 := by omega
  unfold Spec
  k_fill
  intros; rename_i hpre hret
  refine wpAny_call ?_
  k_dflt cell_enter
  rename _ = Shared.heap _ => hgg
  rw [← hgg] at hpre
  k_steps
  · exact hret _ _ _ (by rw [← hgg]; assumption) ⟨_, congrArg (fun z => Value.str (S z) _) (by rename _ = _ => hc; rw [lawText, if_pos (by omega)]; rfl)⟩
  · rename StrsAre _ (List.map S (List.take _ _)) => hq
    refine rest_inv (V := StrAt (mids ls)) ?_ ?_
    · intro i v ys I oI C oC D m₂ h tk E' hi hv hC hx F N off ne
      obtain ⟨a, t, ha, rfl⟩ := strs_get hq i v hv
      have hA : (mids ls)[i]? = some (wrap a) := by rw [mids, List.getElem?_map, ha]; rfl
      have b5 : a.length ≤ 100000 := by
        have := sum_getD ((ls.drop 1).take (ls.length - 2)) i
        have e : ((ls.drop 1).take (ls.length - 2)).getD i [] = a := by simp only [List.getD, ha]; rfl
        rw [e] at this
        have h1 := sum_take (ls.drop 1) (ls.length - 2)
        have h2 := sum_drop ls 1
        omega
      k_steps
      refine CompEnd.intro (by k_asm) (by k_asm) _ (fun p hp => hp) off (.inr ⟨_, by k_mem, rfl, _, rfl⟩) ⟨rfl, _, _, hA, rfl⟩
    · intro ys hys hV
      have hss := strs_at (ls := mids ls) (by rw [hys, mids, List.length_map, strs_len hq]) hV
      intro D h tk F N off
      k_steps
      exact hret _ _ _ (by rw [← hgg]; assumption) ⟨_, congrArg (fun z => Value.str (S z) _) (by rw [lawText, if_neg (by omega)]; rfl)⟩
end
section
theorem kz_Cut : True := by
  k_with_none
  k_with "mine:room" => (first | exact Room.lt (by assumption) | exact Room.lt (Room.deep (k := 1) (e := 0) (by assumption) (by decide)) | exact Room.lt (Room.deep (k := 1) (e := 0) (Room.deep (k := 1) (e := 1) (by assumption) (by decide)) (by decide)) | exact Room.deep (by assumption) (by decide) | ((with_reducible show Room _ _); unfold Room; decide) | ((with_reducible show Room _ _); unfold Room; simp only [depth_under_make, depth_under_kw, depth_in1, depth_deeper, depth_caller]; decide))
  k_with "mine:units" => (first | exact Units.deep (by assumption) (by decide) | exact Units.deep2 (by assumption) (by decide) | ((with_reducible show Units _ _); unfold Units; ktr_units))
  k_with "mine:all1" => (first | exact fnil | (refine fcons (by with_unfolding_all rfl) ?_; walk_at "mine:all1"))
  k_with "mine:allin" => (first | exact fnil | (refine fcons (by k_memK) ?_; walk_at "mine:allin") | (intro p9 h9; kst_mem))
  k_with "mine:all" => (first | exact fnil | (refine' fcons ?mqfa ?mqfb; (case mqfa => k_ne); (case mqfb => walk_at "mine:all")))
  k_with "mine:cell" => (first
  | (refine' callP ?mqk1 ?mqk2 ?mqk3 ?mqk5 ?mqkA ?mqkF ?mqkK ?mqk6 ?mqk7 ?mqk8 ?mqk9 ?mqkB ?_ ?mqc2 ?mqc3 ?mqc4 ?mqc5; (case mqkA => exact rfl); (case mqkF => exact rfl); (case mqkK => assumption); (case mqk1 => k_asm); (case mqk2 => k_asm); (case mqk3 => k_asm); (case mqk5 => k_asm); (case mqk6 => k_is); (case mqk7 => k_is); (case mqk8 => ktr_room); (case mqk9 => first | exact BindsTo.of_eq rfl | exact binds_K (by k_in) rfl (by k_is) rfl rfl rfl); (case mqc5 => decide); (case mqkB => exact locs rfl); (case mqc2 => exact rfl); (case mqc3 => exact rfl); (case mqc4 => exact rfl); k_whole; intro _ _ _ _ _ _ _ _ _ _; walk_at "mine:let"; (try dsimp only); (try k_fold); (try walk_at "mine:env"))
  | (refine' callPC ?mqk1 ?mqk2 ?mqk3 ?mqk5 ?mqkA ?mqkF ?mqkK ?mqk6 ?mqk7 ?mqk8 ?mqk9 ?mqkB ?mqkD ?_ ?mqc2 ?mqc3 ?mqc4; (case mqkA => exact rfl); (case mqkF => exact rfl); (case mqkK => assumption); (case mqk1 => k_asm); (case mqk2 => k_asm); (case mqk3 => k_asm); (case mqk5 => k_asm); (case mqk6 => k_is); (case mqk7 => k_is); (case mqk8 => ktr_room); (case mqk9 => first | exact BindsTo.of_eq rfl | exact binds_K (by k_in) rfl (by k_is) rfl rfl rfl); (case mqkB => exact rfl); (case mqkD => decide +kernel); (case mqc2 => exact rfl); (case mqc3 => exact rfl); (case mqc4 => exact rfl); k_whole; intro _ _ _ _ _ _ _ _ N' Y' _ _ _; walk_at "mine:let"; k_cells Y'; (try simp only [List.cons_append, List.nil_append] at N'); (try (revert N'; intro _)); (try dsimp only); (try k_fold); (try walk_at "mine:env")))
  k_with "call type:bytes" => (k_here; (with_reducible show wpAny _ _ (call (Value.type "bytes") [Value.ref _]) _ _ _); k_dflt (refine' KBa.make_K ?mqkbaF ?mqkbaN ?mqkbah ?mqkbal ?mqkbai ?mqkbar ?mqkban ?_; (case mqkbaF => k_asm); (case mqkbaN => k_asm); (case mqkbah => rfl); (case mqkbal => exact News.isList (by k_asm) (by k_mem)); (case mqkbai => first | exact IntsAre.cons _ _ (IntsAre.cons _ _ (IntsAre.cons _ _ (IntsAre.cons _ _ IntsAre.nil))) | exact IntsAre.cons _ _ (IntsAre.cons _ _ IntsAre.nil) | exact IntsAre.cons _ _ IntsAre.nil); (case mqkbar => (repeat (first | exact fnil | refine fcons ⟨by omega, by omega⟩ ?_))); (case mqkban => exact Nat.le_of_ble_eq_true rfl); k_whole); intro _ _ _ _ _ _)
  k_with "call type:list" => (k_here; (with_reducible show wpAny _ _ (call (Value.type "list") [Value.bytes _ _]) _ _ _); first
  | (k_dflt (refine' list_bytes1 ?mqk1 ?mqk2 ?mqk3 ?mqk4 ?_; (case mqk1 => k_asm); (case mqk2 => k_asm); (case mqk3 => rfl); (case mqk4 => assumption)); intro _ _ _ _ _ _ _ l1; (try k_lt l1); (try (revert l1; intro _)))
  | (k_dflt (refine' list_bytes2 ?mqk1 ?mqk2 ?mqk3 ?mqk4 ?_; (case mqk1 => k_asm); (case mqk2 => k_asm); (case mqk3 => rfl); (case mqk4 => assumption)); intro _ _ _ _ _ _ _ _ l1; (try k_lt l1); (try (revert l1; intro _))))
  k_with "exec For Name BinOp cons nil" => (k_here; (with_unfolding_all refine' For_invVF ?mqkF ?mqk1 ?mqk2 ?_; (case mqkF => k_asm); (case mqk1 => exact rfl); (case mqk2 => exact rfl); k_whole))
  k_with "mine:env" => ((show (let AA := _; let EE := _; wpAny _ AA (execs _ EE) _ _ _)); intro AA EE)
  k_with "mine:let" => ((rename Fr _ _ _ _ => lF'); refine fr_let lF' ?_; clear lF'; intro _ _)
  k_with "storeName" => (k_here; k_dflt (refine' storeM ?mqF ?mqN ?_ ?mqhk ?mqhx; (case mqF => k_asm); (case mqN => k_asm); (case mqhk => exact rfl); (case mqhx => exact rfl); k_whole); intro _ _ _ _ _; (try k_sweep))
  k_with "mine:turn" => (walk_at "mine:let"; (show wpAny _ _ _ _ _ _); k_fold)
  k_with "mine:led" => (intro p hp; revert p; repeat (first | exact fnil | refine fcons rfl ?_))
  k_with "mine:same" => ((try dsimp (config := { zetaDelta := true }) only); ksw_same)
  k_with "mine:used" => (intro _ _ _ _ _ _ r9; (obtain ⟨_, e9⟩ := r9); subst e9; (try dsimp only); (try k_fold))
  k_with "mine:usedN" => (intro _ _ _ _ _ _ _ _ _ _; (try dsimp only); (try k_fold))
  k_with "mine:forG" => (k_dflt (refine' For_G ?mqkF ?_; (case mqkF => k_asm)))
  k_with "mine:forT" => (k_dflt (refine' For_T ?mqkF ?_; (case mqkF => k_asm)))
  k_with "call type:type" => (k_here; (with_reducible show wpAny _ _ (call _ [Value.bytes _ _]) _ _ _); refine call_type_of (Tx := "bytes") rfl (by decide +kernel) ?_)
  k_with "pyIter bytes" => ((with_reducible show wpAny _ _ (pyIter (Value.bytes _ _)) (fun it s₂ => LoopAtV _ _ _ _ _ _ _ _ _ it s₂) _ _); k_here; k_bytesUnr)
  k_with "subscriptTail" => (k_here; (with_reducible show wpAny _ _ (subscriptTail (Expr.Name "_B64" _) _ (Value.bytes _ _) (Value.int _ _)) _ _ _); with_unfolding_all refine' b64_item ?mqh0 ?mqh1 (fun _ _ _ _ => ?_) ?mqhs ?mqht; (case mqh0 => first | assumption | exact Nat.le_trans (by assumption) (by decide) | omega); (case mqh1 => first | assumption | exact Nat.le_trans (by assumption) (by decide) | omega); (case mqhs => with_unfolding_all rfl); (case mqht => intro _; with_unfolding_all rfl))
  k_with "binaryOp RShift int int" => (k_here; first
  | (refine' rsh2 ?mqhn ?_; (case mqhn => first | assumption | exact Nat.le_trans (by assumption) (by decide) | omega))
  | (refine' rsh4 ?mqhn ?_; (case mqhn => first | assumption | exact Nat.le_trans (by assumption) (by decide) | omega)))
  k_with "binaryOp LShift int int" => (k_here; first
  | (refine' lsh_ 8 256 ?mqhn ?mqhk ?mqhP ?mqh0 ?mqh1 ?_; (case mqhn => decide); (case mqhk => decide); (case mqhP => decide); (case mqh0 => first | assumption | exact Nat.le_trans (by assumption) (by decide) | omega); (case mqh1 => first | assumption | exact Nat.le_trans (by assumption) (by decide) | omega))
  | (refine' lsh_ 6 64 ?mqhn ?mqhk ?mqhP ?mqh0 ?mqh1 ?_; (case mqhn => decide); (case mqhk => decide); (case mqhP => decide); (case mqh0 => first | assumption | exact Nat.le_trans (by assumption) (by decide) | omega); (case mqh1 => first | assumption | exact Nat.le_trans (by assumption) (by decide) | omega))
  | (refine' lsh_ 4 16 ?mqhn ?mqhk ?mqhP ?mqh0 ?mqh1 ?_; (case mqhn => decide); (case mqhk => decide); (case mqhP => decide); (case mqh0 => first | assumption | exact Nat.le_trans (by assumption) (by decide) | omega); (case mqh1 => first | assumption | exact Nat.le_trans (by assumption) (by decide) | omega))
  | (refine' lsh_ 2 4 ?mqhn ?mqhk ?mqhP ?mqh0 ?mqh1 ?_; (case mqhn => decide); (case mqhk => decide); (case mqhP => decide); (case mqh0 => first | assumption | exact Nat.le_trans (by assumption) (by decide) | omega); (case mqh1 => first | assumption | exact Nat.le_trans (by assumption) (by decide) | omega)))
  k_with "binaryOp BitOr int int" => (k_here; first
  | (refine' or_ 8 256 ?mqhP ?mqh0 ?mqh1 ?mqh2 ?_; (case mqhP => decide); (case mqh0 => first | assumption | exact Nat.le_trans (by assumption) (by decide) | omega); (case mqh1 => first | assumption | exact Nat.le_trans (by assumption) (by decide) | omega); (case mqh2 => first | assumption | exact Nat.le_trans (by assumption) (by decide) | omega))
  | (refine' or_ 6 64 ?mqhP ?mqh0 ?mqh1 ?mqh2 ?_; (case mqhP => decide); (case mqh0 => first | assumption | exact Nat.le_trans (by assumption) (by decide) | omega); (case mqh1 => first | assumption | exact Nat.le_trans (by assumption) (by decide) | omega); (case mqh2 => first | assumption | exact Nat.le_trans (by assumption) (by decide) | omega))
  | (refine' or_ 4 16 ?mqhP ?mqh0 ?mqh1 ?mqh2 ?_; (case mqhP => decide); (case mqh0 => first | assumption | exact Nat.le_trans (by assumption) (by decide) | omega); (case mqh1 => first | assumption | exact Nat.le_trans (by assumption) (by decide) | omega); (case mqh2 => first | assumption | exact Nat.le_trans (by assumption) (by decide) | omega))
  | (refine' or_ 2 4 ?mqhP ?mqh0 ?mqh1 ?mqh2 ?_; (case mqhP => decide); (case mqh0 => first | assumption | exact Nat.le_trans (by assumption) (by decide) | omega); (case mqh1 => first | assumption | exact Nat.le_trans (by assumption) (by decide) | omega); (case mqh2 => first | assumption | exact Nat.le_trans (by assumption) (by decide) | omega)))
  k_with "binaryOp BitAnd int int" => (k_here; first
  | refine and65535 ?_
  | refine and63 ?_
  | refine and15 ?_
  | refine and3 ?_)
  k_with "getMethod bytes" => (k_here; (with_reducible refine method_translate ?_))
  k_with "call builtin:bytes.translate" => (k_here; first
  | (refine' call_urlenc ?mqh1 ?mqh2 (fun _ _ => ?_); (case mqh1 => assumption); (case mqh2 => first | kernel_rfl | decide +kernel))
  | (refine' call_urldec ?mqh1 ?mqh2 (fun _ _ => ?_); (case mqh1 => assumption); (case mqh2 => first | kernel_rfl | decide +kernel)))
  k_with "call type:str" => (k_here; (with_reducible show wpAny _ _ (call (Value.type "str") [Value.bytes _ _, Value.str _ _]) _ _ _); first
  | (refine' call_strword0 ?mqh1 (fun _ _ => ?_); (case mqh1 => assumption))
  | (refine' call_strword ?mqh1 (fun _ _ => ?_); (case mqh1 => assumption)))
  k_with "getMethod str" => (k_here; first | with_reducible refine m_encode ?_ | with_reducible refine m_translate ?_)
  k_with "call builtin:str.encode" => (k_here; refine' call_encword ?mqh1 (fun _ _ => ?_); (case mqh1 => assumption))
  k_with "binaryOp Add str str" => (k_here; refine' add_SS ?mqhx ?mqhy ?mqhsz (fun _ _ => ?_); (case mqhx => first | rfl | exact ofS _ | exact S_of _); (case mqhy => first | rfl | exact ofS _ | exact S_of _); (case mqhsz => ((try simp only [List.length_append, List.length_cons, List.length_nil, List.length_replicate]); omega)))
  k_with "binaryOp Mult str int" => (k_here; refine' mul_S ?mqhx ?mqh0 ?mqh1 (fun _ _ => ?_); (case mqhx => exact ofS _); (case mqh0 => first | assumption | exact Nat.le_trans (by assumption) (by decide) | omega); (case mqh1 => first | assumption | exact Nat.le_trans (by assumption) (by decide) | omega))
  k_with "subscriptTail" => (k_here; (with_reducible show wpAny _ _ (subscriptTail _ _ (Value.str _ _) (Value.int _ _)) _ _ _); with_unfolding_all refine' item_S ?mqhx ?mqh0 ?mqh1 ?mqh2 (fun _ _ => ?_) ?mqhs ?mqht; (case mqhx => first | rfl | exact ofS _ | exact S_of _); (case mqh0 => ktr_rel); (case mqh1 => ktr_rel); (case mqh2 => ktr_rel); (case mqhs => with_unfolding_all rfl); (case mqht => intro _; with_unfolding_all rfl))
  k_with "eval Constant int" => (with_reducible refine const_i ?_)
  k_with "binaryOp Add int int" => (with_reducible refine add_i ?_)
  k_with "binaryOp Sub int int" => (with_reducible refine sub_i ?_)
  trivial
theorem kw_Jx39 : True := by
  k_with "eval ListComp" => (k_here; first
  | ((with_reducible show wpAny _ _ (eval (PySem.Expr.ListComp _ [⟨PySem.Expr.Name _ _, _, [], 0⟩] _ _) _) _ _ _); k_dflt (refine ListComp_G (_F₀ := by k_asm) (by with_unfolding_all rfl) (by decide) (by rfl) (by decide) (by rfl) ?_))
  | ((with_reducible show wpAny _ _ (eval (PySem.Expr.ListComp _ [⟨PySem.Expr.Name _ _, _, [_], 0⟩] _ _) _) _ _ _); k_dflt (refine LCt.ListComp_T (F₀ := by k_asm) (by with_unfolding_all rfl) (by decide) (by rfl) (by decide) (by rfl) ?_)))
  trivial
theorem kw_Jx40 : True := by
  k_with "CompSrcT" => (k_here; k_dflt (refine LCt.CompSrcT.ledger (by rfl) (by k_asm) (by k_asm) (by k_mem) (by assumption) ?_))
  trivial
theorem kw_Jx41 : True := by
  k_with "call builtin:len" => (k_here; k_dflt (refine' len_SL ?mqhl ?mqhi ?mqhz (fun _ _ => ?_); (case mqhl => kmk_list); (case mqhi => assumption); (case mqhz => first | assumption | exact Nat.le_trans (by assumption) (by decide) | omega)))
  trivial
theorem kw_Jx42 : True := by
  k_with "subscriptTail" => (k_here; (with_reducible show wpAny _ _ (subscriptTail _ _ (Value.ref _) (Value.int _ _)) _ _ _); first
  | (k_dflt (refine' item_SL ?mqhl ?mqhi ?mqhz ?mqh0 ?mqh1 (fun t' => ?_) ?mqhs ?mqht; (case mqhl => kmk_list); (case mqhi => assumption); (case mqhz => first | assumption | exact Nat.le_trans (by assumption) (by decide) | omega); (case mqh0 => first | assumption | exact Nat.le_trans (by assumption) (by decide) | omega); (case mqh1 => first | assumption | exact Nat.le_trans (by assumption) (by decide) | omega)); (case mqhs => with_unfolding_all rfl); (case mqht => intro _; with_unfolding_all rfl))
  | ((with_reducible show wpAny _ _ (subscriptTail _ _ (Value.ref _) (Value.int (-1) _)) _ _ _); k_dflt (refine' item_SLn ?mqhl ?mqhi ?mqhz ?mqh1 (fun _ => ?_) ?mqhs ?mqht; (case mqhl => kmk_list); (case mqhi => assumption); (case mqhz => first | assumption | exact Nat.le_trans (by assumption) (by decide) | omega); (case mqh1 => first | assumption | exact Nat.le_trans (by assumption) (by decide) | omega)); (case mqhs => with_unfolding_all rfl); (case mqht => intro _; with_unfolding_all rfl)); (try (revert t'; intro _)))
  trivial
theorem kw_Jx43 : True := by
  k_with "call builtin:str.join" => (k_here; k_dflt (refine' join_S ?mqhx ?mqhl ?mqhi ?mqhs (fun _ _ => ?_); (case mqhx => rfl); (case mqhl => kmk_list); (case mqhi => assumption); (case mqhs => assumption)))
  trivial
theorem kw_Jx44 : True := by
  k_with "call builtin:list.append" => (k_here; (with_reducible show wpAny _ _ (call (Value.builtin _) [Value.ref _, _]) _ _ _); k_dflt (refine' append_K ?mqk1 ?mqk2 ?mqk3 ?_ ?mqz; (case mqk1 => k_asm); (case mqk2 => k_asm); (case mqk3 => k_upd); (case mqz => assumption); k_whole); intro _ _ _)
  trivial
theorem kw_Jx45 : True := by
  k_with "setItem ref int" => (k_here; first
  | ((with_reducible show wpAny _ _ (setItem _ (Value.int (-1) _) _) _ _ _); k_dflt (refine' set_last ?mqk1 ?mqk2 ?mqk3 ?mqz ?_; (case mqk1 => k_asm); (case mqk2 => k_asm); (case mqk3 => k_upd); (case mqz => first | assumption | exact Nat.le_trans (by assumption) (by decide) | omega)); intro h' F' N')
  | (k_dflt (refine' set_nat ?mqk1 ?mqk2 ?mqk3 ?mqz0 ?mqz1 ?mqz ?_; (case mqk1 => k_asm); (case mqk2 => k_asm); (case mqk3 => k_upd); (case mqz0 => first | assumption | exact Nat.le_trans (by assumption) (by decide) | omega); (case mqz1 => first | assumption | exact Nat.le_trans (by assumption) (by decide) | omega); (case mqz => first | assumption | exact Nat.le_trans (by assumption) (by decide) | omega)); intro _ _ _); (try (revert h'; intro _)); (try (revert F'; intro _)); (try (revert N'; intro _)))
  trivial
theorem kw_Jx46 : True := by
  k_with "subscriptTail" => (k_here; (with_reducible show wpAny _ _ (subscriptTail _ _ (Value.str _ _) (Value.int (-1) _)) _ _ _); with_unfolding_all refine' item_Sn ?mqhx ?mqh1 ?mqh2 (fun _ _ => ?_) ?mqhs ?mqht; (case mqhx => first | rfl | exact ofS _ | exact S_of _); (case mqh1 => first | assumption | exact Nat.le_trans (by assumption) (by decide) | omega); (case mqh2 => first | assumption | exact Nat.le_trans (by assumption) (by decide) | omega); (case mqhs => with_unfolding_all rfl); (case mqht => intro _; with_unfolding_all rfl))
  trivial

open LCg LCt
noncomputable def cut1 (told : List (List Nat)) : Option (List Nat) → List (List Nat)
  | none => told ++ [[]]
  | some p => told.set (told.length - 1) (told.getD (told.length - 1) [] ++ [p.getD (p.length - 1) 0])
noncomputable def cuts (ps : List (Option (List Nat))) : List (List Nat) := ps.foldl cut1 [[]]
noncomputable def cutR (ps : List (Option (List Nat))) : List (List Nat) := (cuts ps).filter (fun t => t != [])
theorem kw_Jx47 : True := by
  k_with "exec For Name Name cons nil" => (k_here; walk_at "mine:forG")
  trivial
noncomputable def NewStrs (h h' : Heap) (ls : List (List Nat)) (v : Value) : Prop := ∃ D vs c, v = .ref D ∧ h.get? D = none ∧ h'.get? D = some (listOf vs.toArray c) ∧ StrsAre vs (ls.map S)
theorem cut_len (qs : List (Option (List Nat))) : ∀ t : List (List Nat), 1 ≤ t.length → (∀ a ∈ t, a.length ≤ 1000) → qs.length ≤ 1000 → True := fun _ _ _ _ => trivial
theorem cuts_b : ∀ (qs : List (Option (List Nat))) (t : List (List Nat)) (k : Nat), 1 ≤ t.length → t.length ≤ k + 1 → (∀ i, (t.getD i []).length ≤ k) →
    1 ≤ (qs.foldl cut1 t).length ∧ (qs.foldl cut1 t).length ≤ k + qs.length + 1 ∧ ∀ i, ((qs.foldl cut1 t).getD i []).length ≤ k + qs.length
  | [], t, k, h1, h2, h3 => ⟨h1, by simpa using h2, by simpa using h3⟩
  | q :: qs, t, k, h1, h2, h3 => by
    have key : 1 ≤ (cut1 t q).length ∧ (cut1 t q).length ≤ (k + 1) + 1 ∧ ∀ i, ((cut1 t q).getD i []).length ≤ k + 1 := by
      cases q with
      | none =>
        refine ⟨by simp [cut1], by simp [cut1]; omega, fun i => ?_⟩
        rcases Nat.lt_trichotomy i t.length with h | h | h
        · have := h3 i
          simp only [cut1, List.getD, List.getElem?_append_left h] at this ⊢; omega
        · subst h; simp [cut1, List.getD]
        · simp only [cut1, List.getD]; rw [List.getElem?_eq_none (by simp; omega)]; simp
      | some p =>
        refine ⟨by simp [cut1]; omega, by simp [cut1]; omega, fun i => ?_⟩
        by_cases h : t.length - 1 = i
        · subst h
          have := h3 (t.length - 1)
          have hlt : t.length - 1 < t.length := by omega
          simp only [cut1, List.getD, List.getElem?_set_self hlt] at this ⊢
          simp only [Option.getD_some, List.length_append, List.length_singleton]; omega
        · have := h3 i
          simp only [cut1, List.getD, List.getElem?_set_ne h] at this ⊢; omega
    obtain ⟨a, b, c⟩ := cuts_b qs (cut1 t q) (k + 1) key.1 key.2.1 key.2.2
    rw [List.foldl_cons]
    refine ⟨a, by rw [List.length_cons]; omega, fun i => ?_⟩
    have := c i
    rw [List.length_cons]; omega
theorem bne_S (a : List Nat) : (S a != Str.ofString "") = (a != []) := by
  have h : Str.ofString "" = S [] := rfl
  rw [h]
  cases a with
  | nil => rfl
  | cons x r =>
    have : S (x :: r) ≠ S [] := fun e => by have := S_inj.mp e; cases this
    have e1 : (S (x :: r) != S []) = true := by rw [bne_iff_ne]; exact this
    rw [e1]; rfl
theorem c_cut (w : World) (D : Addr) (vs : List Value) (ps : List (Option (List Nat))) (hi : PsAre .none vs ps) (h1 : ∀ p, some p ∈ ps → 1 ≤ p.length ∧ p.length ≤ 1000) (h2 : ps.length ≤ 1000) :
    Spec w 6 217 [.ref D] [] (fun h => h.IsList D vs.toArray) (fun h h' v => NewStrs h h' (cutR ps) v) := by
  unfold Spec
  k_fill
  intros; rename_i hpre hret
  refine wpAny_call ?_
  k_dflt cell_enter
  rename _ = Shared.heap _ => hgg
  rw [← hgg] at hpre
  k_steps
  rename_i T x1 x2 x3 x4 x5 F2 N2
  refine fr_gen F2 fun m1 hm1 F2 => ?_
  refine for_list (σ := List Value × Nat) (fun _ c => [(T, W.listOf c.1.toArray c.2)]) (fun _ _ => [(Str.ofString "told", .ref T)]) (fun i c => StrsAre c.1 (((ps.take i).foldl cut1 [[]]).map S)) [Str.ofString "piece"] ([.str (Str.ofString "") _], 0)
    (by rfl) (by rfl) (by rfl) F2 N2 (fun _ _ _ => .inl hpre) (fun p hp => (hm1 _).trans (by rw [List.mem_singleton.mp hp]; rfl)) (by exact .cons _ _ .nil) ?_ ?_ ?_
  · obtain ⟨o, e, _⟩ := hpre
    have h1 := Heap.lt_size e
    have h2 := F2.above
    intro e9
    have : D = _ := e9
    rw [this] at h1
    exact absurd h1 (Nat.not_lt.mpr h2)
  · intro g i c u v I oI h tk E' hi9 hinv hv F N off
    have hv' : vs[i]? = some v := by simpa using hv
    obtain ⟨b1, b2, b3⟩ := cuts_b (ps.take i) [[]] 0 (by simp) (by simp) (fun i => by cases i <;> simp)
    have b4 : ((ps.take i).foldl cut1 [[]]).length ≤ 1001 := by have : (ps.take i).length ≤ ps.length := by rw [List.length_take]; omega
                                                                omega
    have b5 := strs_len hinv
    have hTI : T ≠ I := off _ (.head _)
    have hIT : I ≠ T := Ne.symm hTI
    have b6 : c.1.toArray.size ≤ sizeLine := by rw [sizeLine_eq, List.size_toArray]; omega
    rcases ps_get hi i v hv' with ⟨hp, rfl⟩ | ⟨p, t, hp, rfl⟩
    · dsimp only [List.cons_append, List.nil_append, kstB] at N F hinv ⊢
      walk_at "mine:turn"
      k_steps
      walk_at "mine:zeta"
      rename News _ _ _ _ => nE
      simp only [List.push_toArray] at nE
      refine for_end (c := (_, _)) (by k_asm) nE (by k_mem) (by kst_in) (fun p hp => by rw [List.mem_singleton.mp hp]; exact hTI) (by kst_all) (by ksw_same) ?_
      show StrsAre _ (((ps.take (i + 1)).foldl cut1 [[]]).map S)
      rw [List.take_add_one, hp, List.foldl_append]
      exact strs_snoc hinv
    · obtain ⟨b7, b8⟩ := h1 p (List.mem_of_getElem? hp)
      have b9 := b3 (((ps.take i).foldl cut1 [[]]).length - 1)
      have b10 : (ps.take i).length ≤ 1000 := by rw [List.length_take]; omega
      dsimp only [List.cons_append, List.nil_append, kstB] at N F hinv ⊢
      walk_at "mine:turn"
      k_steps
      walk_at "mine:zeta"
      rename News _ _ _ _ => nE
      refine for_end (c := (_, _)) (by k_asm) nE (by k_mem) (by kst_in) (fun p hp => by rw [List.mem_singleton.mp hp]; exact hTI) (by kst_all) (by ksw_same) ?_
      show StrsAre _ (((ps.take (i + 1)).foldl cut1 [[]]).map S)
      rw [List.take_add_one, hp, List.foldl_append]
      dsimp only
      rw [b5]
      exact strs_set hinv
  · intro g c u h tk hinv F N
    obtain ⟨b1, b2, b3⟩ := cuts_b ps [[]] 0 (by simp) (by simp) (fun i => by cases i <;> simp)
    have e0 : vs.toArray.size = ps.length := by rw [List.size_toArray, ps_len hi]
    rw [e0, List.take_length] at hinv
    have b5 := strs_len hinv
    have b6 : c.1.toArray.size ≤ sizeLine := by rw [sizeLine_eq, List.size_toArray]; omega
    dsimp only [List.cons_append, List.nil_append, kstB] at N F ⊢
    walk_at "mine:let"
    show wpAny _ _ _ _ _ _
    k_steps
    refine restT_inv (V := fun i ys => StrsAre ys ((((ps.foldl cut1 [[]]).take i).filter (fun t => t != [])).map S)) ?_ (by exact .nil) ?_
    · intro i v ys I oI C oC D m₂ h tk E' hi9 hv hV hC hx F N off ne
      have hv' : c.1[i]? = some v := by simpa using hv
      obtain ⟨a, t, ha, rfl⟩ := strs_get hinv i v hv'
      have hS : ((ps.foldl cut1 [[]]).take (i + 1)) = ((ps.foldl cut1 [[]]).take i) ++ [a] := by rw [List.take_add_one, ha]; rfl
      k_steps
      · rename (_ != _) = true => hq
        rw [bne_S] at hq
        refine CompEnd.intro (by k_asm) (by k_asm) _ (fun p hp => hp) off (.inr ⟨_, by k_mem, rfl, _, rfl⟩) ⟨rfl, ?_⟩
        rw [hS, List.filter_append, List.filter_cons, if_pos hq]
        exact strs_snoc hV
      · rename (_ != _) = false => hq
        rw [bne_S] at hq
        refine CompEnd.intro (by k_asm) (by k_asm) _ (fun p hp => hp) off (.inr ⟨_, by k_mem, rfl, _, rfl⟩) ⟨rfl, ?_⟩
        rw [hS, List.filter_append, List.filter_cons, if_neg (by rw [hq]; decide), List.filter_nil, List.append_nil]
        exact hV
    · intro ys hys
      intro D h tk F N off
      have e1 : c.1.toArray.size = (ps.foldl cut1 [[]]).length := by rw [List.size_toArray, b5]
      rw [e1, List.take_length] at hys
      k_steps
      refine hret _ _ _ (by rw [← hgg]; assumption) ⟨D, ys, ys.length, rfl, ?_, ?_, hys⟩
      · rw [← hgg]; exact (N _ (.head _)).2.2
      · exact (N _ (.head _)).1
end
section
theorem kz_Tp : True := by
  k_with_none
  k_with "mine:room" => (first | exact Room.lt (by assumption) | exact Room.lt (Room.deep (k := 1) (e := 0) (by assumption) (by decide)) | exact Room.lt (Room.deep (k := 1) (e := 0) (Room.deep (k := 1) (e := 1) (by assumption) (by decide)) (by decide)) | exact Room.deep (by assumption) (by decide) | ((with_reducible show Room _ _); unfold Room; decide) | ((with_reducible show Room _ _); unfold Room; simp only [depth_under_make, depth_under_kw, depth_in1, depth_deeper, depth_caller]; decide))
  k_with "mine:units" => (first | exact Units.deep (by assumption) (by decide) | exact Units.deep2 (by assumption) (by decide) | ((with_reducible show Units _ _); unfold Units; ktr_units))
  k_with "mine:all1" => (first | exact fnil | (refine fcons (by with_unfolding_all rfl) ?_; walk_at "mine:all1"))
  k_with "mine:allin" => (first | exact fnil | (refine fcons (by k_memK) ?_; walk_at "mine:allin") | (intro p9 h9; kst_mem))
  k_with "mine:all" => (first | exact fnil | (refine' fcons ?mqfa ?mqfb; (case mqfa => k_ne); (case mqfb => walk_at "mine:all")))
  k_with "mine:cell" => (first
  | (refine' callP ?mqk1 ?mqk2 ?mqk3 ?mqk5 ?mqkA ?mqkF ?mqkK ?mqk6 ?mqk7 ?mqk8 ?mqk9 ?mqkB ?_ ?mqc2 ?mqc3 ?mqc4 ?mqc5; (case mqkA => exact rfl); (case mqkF => exact rfl); (case mqkK => assumption); (case mqk1 => k_asm); (case mqk2 => k_asm); (case mqk3 => k_asm); (case mqk5 => k_asm); (case mqk6 => k_is); (case mqk7 => k_is); (case mqk8 => ktr_room); (case mqk9 => first | exact BindsTo.of_eq rfl | exact binds_K (by k_in) rfl (by k_is) rfl rfl rfl); (case mqc5 => decide); (case mqkB => exact locs rfl); (case mqc2 => exact rfl); (case mqc3 => exact rfl); (case mqc4 => exact rfl); k_whole; intro _ _ _ _ _ _ _ _ _ _; walk_at "mine:let"; (try dsimp only); (try k_fold); (try walk_at "mine:env"))
  | (refine' callPC ?mqk1 ?mqk2 ?mqk3 ?mqk5 ?mqkA ?mqkF ?mqkK ?mqk6 ?mqk7 ?mqk8 ?mqk9 ?mqkB ?mqkD ?_ ?mqc2 ?mqc3 ?mqc4; (case mqkA => exact rfl); (case mqkF => exact rfl); (case mqkK => assumption); (case mqk1 => k_asm); (case mqk2 => k_asm); (case mqk3 => k_asm); (case mqk5 => k_asm); (case mqk6 => k_is); (case mqk7 => k_is); (case mqk8 => ktr_room); (case mqk9 => first | exact BindsTo.of_eq rfl | exact binds_K (by k_in) rfl (by k_is) rfl rfl rfl); (case mqkB => exact rfl); (case mqkD => decide +kernel); (case mqc2 => exact rfl); (case mqc3 => exact rfl); (case mqc4 => exact rfl); k_whole; intro _ _ _ _ _ _ _ _ N' Y' _ _ _; walk_at "mine:let"; k_cells Y'; (try simp only [List.cons_append, List.nil_append] at N'); (try (revert N'; intro _)); (try dsimp only); (try k_fold); (try walk_at "mine:env")))
  k_with "call type:bytes" => (k_here; (with_reducible show wpAny _ _ (call (Value.type "bytes") [Value.ref _]) _ _ _); k_dflt (refine' KBa.make_K ?mqkbaF ?mqkbaN ?mqkbah ?mqkbal ?mqkbai ?mqkbar ?mqkban ?_; (case mqkbaF => k_asm); (case mqkbaN => k_asm); (case mqkbah => rfl); (case mqkbal => exact News.isList (by k_asm) (by k_mem)); (case mqkbai => first | exact IntsAre.cons _ _ (IntsAre.cons _ _ (IntsAre.cons _ _ (IntsAre.cons _ _ IntsAre.nil))) | exact IntsAre.cons _ _ (IntsAre.cons _ _ IntsAre.nil) | exact IntsAre.cons _ _ IntsAre.nil); (case mqkbar => (repeat (first | exact fnil | refine fcons ⟨by omega, by omega⟩ ?_))); (case mqkban => exact Nat.le_of_ble_eq_true rfl); k_whole); intro _ _ _ _ _ _)
  k_with "call type:list" => (k_here; (with_reducible show wpAny _ _ (call (Value.type "list") [Value.bytes _ _]) _ _ _); first
  | (k_dflt (refine' list_bytes1 ?mqk1 ?mqk2 ?mqk3 ?mqk4 ?_; (case mqk1 => k_asm); (case mqk2 => k_asm); (case mqk3 => rfl); (case mqk4 => assumption)); intro _ _ _ _ _ _ _ l1; (try k_lt l1); (try (revert l1; intro _)))
  | (k_dflt (refine' list_bytes2 ?mqk1 ?mqk2 ?mqk3 ?mqk4 ?_; (case mqk1 => k_asm); (case mqk2 => k_asm); (case mqk3 => rfl); (case mqk4 => assumption)); intro _ _ _ _ _ _ _ _ l1; (try k_lt l1); (try (revert l1; intro _))))
  k_with "exec For Name BinOp cons nil" => (k_here; (with_unfolding_all refine' For_invVF ?mqkF ?mqk1 ?mqk2 ?_; (case mqkF => k_asm); (case mqk1 => exact rfl); (case mqk2 => exact rfl); k_whole))
  k_with "mine:env" => ((show (let AA := _; let EE := _; wpAny _ AA (execs _ EE) _ _ _)); intro AA EE)
  k_with "mine:let" => ((rename Fr _ _ _ _ => lF'); refine fr_let lF' ?_; clear lF'; intro _ _)
  k_with "storeName" => (k_here; k_dflt (refine' storeM ?mqF ?mqN ?_ ?mqhk ?mqhx; (case mqF => k_asm); (case mqN => k_asm); (case mqhk => exact rfl); (case mqhx => exact rfl); k_whole); intro _ _ _ _ _; (try k_sweep))
  k_with "mine:turn" => (walk_at "mine:let"; (show wpAny _ _ _ _ _ _); k_fold)
  k_with "mine:led" => (intro p hp; revert p; repeat (first | exact fnil | refine fcons rfl ?_))
  k_with "mine:same" => ((try dsimp (config := { zetaDelta := true }) only); ksw_same)
  k_with "mine:used" => (intro _ _ _ _ _ _ r9; (obtain ⟨_, e9⟩ := r9); subst e9; (try dsimp only); (try k_fold))
  k_with "mine:usedN" => (intro _ _ _ _ _ _ _ _ _ _; (try dsimp only); (try k_fold))
  k_with "mine:forG" => (k_dflt (refine' For_G ?mqkF ?_; (case mqkF => k_asm)))
  k_with "mine:forT" => (k_dflt (refine' For_T ?mqkF ?_; (case mqkF => k_asm)))
  k_with "call type:type" => (k_here; (with_reducible show wpAny _ _ (call _ [Value.bytes _ _]) _ _ _); refine call_type_of (Tx := "bytes") rfl (by decide +kernel) ?_)
  k_with "pyIter bytes" => ((with_reducible show wpAny _ _ (pyIter (Value.bytes _ _)) (fun it s₂ => LoopAtV _ _ _ _ _ _ _ _ _ it s₂) _ _); k_here; k_bytesUnr)
  k_with "subscriptTail" => (k_here; (with_reducible show wpAny _ _ (subscriptTail (Expr.Name "_B64" _) _ (Value.bytes _ _) (Value.int _ _)) _ _ _); with_unfolding_all refine' b64_item ?mqh0 ?mqh1 (fun _ _ _ _ => ?_) ?mqhs ?mqht; (case mqh0 => first | assumption | exact Nat.le_trans (by assumption) (by decide) | omega); (case mqh1 => first | assumption | exact Nat.le_trans (by assumption) (by decide) | omega); (case mqhs => with_unfolding_all rfl); (case mqht => intro _; with_unfolding_all rfl))
  k_with "binaryOp RShift int int" => (k_here; first
  | (refine' rsh2 ?mqhn ?_; (case mqhn => first | assumption | exact Nat.le_trans (by assumption) (by decide) | omega))
  | (refine' rsh4 ?mqhn ?_; (case mqhn => first | assumption | exact Nat.le_trans (by assumption) (by decide) | omega)))
  k_with "binaryOp LShift int int" => (k_here; first
  | (refine' lsh_ 8 256 ?mqhn ?mqhk ?mqhP ?mqh0 ?mqh1 ?_; (case mqhn => decide); (case mqhk => decide); (case mqhP => decide); (case mqh0 => first | assumption | exact Nat.le_trans (by assumption) (by decide) | omega); (case mqh1 => first | assumption | exact Nat.le_trans (by assumption) (by decide) | omega))
  | (refine' lsh_ 6 64 ?mqhn ?mqhk ?mqhP ?mqh0 ?mqh1 ?_; (case mqhn => decide); (case mqhk => decide); (case mqhP => decide); (case mqh0 => first | assumption | exact Nat.le_trans (by assumption) (by decide) | omega); (case mqh1 => first | assumption | exact Nat.le_trans (by assumption) (by decide) | omega))
  | (refine' lsh_ 4 16 ?mqhn ?mqhk ?mqhP ?mqh0 ?mqh1 ?_; (case mqhn => decide); (case mqhk => decide); (case mqhP => decide); (case mqh0 => first | assumption | exact Nat.le_trans (by assumption) (by decide) | omega); (case mqh1 => first | assumption | exact Nat.le_trans (by assumption) (by decide) | omega))
  | (refine' lsh_ 2 4 ?mqhn ?mqhk ?mqhP ?mqh0 ?mqh1 ?_; (case mqhn => decide); (case mqhk => decide); (case mqhP => decide); (case mqh0 => first | assumption | exact Nat.le_trans (by assumption) (by decide) | omega); (case mqh1 => first | assumption | exact Nat.le_trans (by assumption) (by decide) | omega)))
  k_with "binaryOp BitOr int int" => (k_here; first
  | (refine' or_ 8 256 ?mqhP ?mqh0 ?mqh1 ?mqh2 ?_; (case mqhP => decide); (case mqh0 => first | assumption | exact Nat.le_trans (by assumption) (by decide) | omega); (case mqh1 => first | assumption | exact Nat.le_trans (by assumption) (by decide) | omega); (case mqh2 => first | assumption | exact Nat.le_trans (by assumption) (by decide) | omega))
  | (refine' or_ 6 64 ?mqhP ?mqh0 ?mqh1 ?mqh2 ?_; (case mqhP => decide); (case mqh0 => first | assumption | exact Nat.le_trans (by assumption) (by decide) | omega); (case mqh1 => first | assumption | exact Nat.le_trans (by assumption) (by decide) | omega); (case mqh2 => first | assumption | exact Nat.le_trans (by assumption) (by decide) | omega))
  | (refine' or_ 4 16 ?mqhP ?mqh0 ?mqh1 ?mqh2 ?_; (case mqhP => decide); (case mqh0 => first | assumption | exact Nat.le_trans (by assumption) (by decide) | omega); (case mqh1 => first | assumption | exact Nat.le_trans (by assumption) (by decide) | omega); (case mqh2 => first | assumption | exact Nat.le_trans (by assumption) (by decide) | omega))
  | (refine' or_ 2 4 ?mqhP ?mqh0 ?mqh1 ?mqh2 ?_; (case mqhP => decide); (case mqh0 => first | assumption | exact Nat.le_trans (by assumption) (by decide) | omega); (case mqh1 => first | assumption | exact Nat.le_trans (by assumption) (by decide) | omega); (case mqh2 => first | assumption | exact Nat.le_trans (by assumption) (by decide) | omega)))
  k_with "binaryOp BitAnd int int" => (k_here; first
  | refine and65535 ?_
  | refine and63 ?_
  | refine and15 ?_
  | refine and3 ?_)
  k_with "getMethod bytes" => (k_here; (with_reducible refine method_translate ?_))
  k_with "call builtin:bytes.translate" => (k_here; first
  | (refine' call_urlenc ?mqh1 ?mqh2 (fun _ _ => ?_); (case mqh1 => assumption); (case mqh2 => first | kernel_rfl | decide +kernel))
  | (refine' call_urldec ?mqh1 ?mqh2 (fun _ _ => ?_); (case mqh1 => assumption); (case mqh2 => first | kernel_rfl | decide +kernel)))
  k_with "call type:str" => (k_here; (with_reducible show wpAny _ _ (call (Value.type "str") [Value.bytes _ _, Value.str _ _]) _ _ _); first
  | (refine' call_strword0 ?mqh1 (fun _ _ => ?_); (case mqh1 => assumption))
  | (refine' call_strword ?mqh1 (fun _ _ => ?_); (case mqh1 => assumption)))
  k_with "getMethod str" => (k_here; first | with_reducible refine m_encode ?_ | with_reducible refine m_translate ?_)
  k_with "call builtin:str.encode" => (k_here; refine' call_encword ?mqh1 (fun _ _ => ?_); (case mqh1 => assumption))
  k_with "binaryOp Add str str" => (k_here; refine' add_SS ?mqhx ?mqhy ?mqhsz (fun _ _ => ?_); (case mqhx => first | rfl | exact ofS _ | exact S_of _); (case mqhy => first | rfl | exact ofS _ | exact S_of _); (case mqhsz => ((try simp only [List.length_append, List.length_cons, List.length_nil, List.length_replicate]); omega)))
  k_with "binaryOp Mult str int" => (k_here; refine' mul_S ?mqhx ?mqh0 ?mqh1 (fun _ _ => ?_); (case mqhx => exact ofS _); (case mqh0 => first | assumption | exact Nat.le_trans (by assumption) (by decide) | omega); (case mqh1 => first | assumption | exact Nat.le_trans (by assumption) (by decide) | omega))
  k_with "subscriptTail" => (k_here; (with_reducible show wpAny _ _ (subscriptTail _ _ (Value.str _ _) (Value.int _ _)) _ _ _); with_unfolding_all refine' item_S ?mqhx ?mqh0 ?mqh1 ?mqh2 (fun _ _ => ?_) ?mqhs ?mqht; (case mqhx => first | rfl | exact ofS _ | exact S_of _); (case mqh0 => ktr_rel); (case mqh1 => ktr_rel); (case mqh2 => ktr_rel); (case mqhs => with_unfolding_all rfl); (case mqht => intro _; with_unfolding_all rfl))
  k_with "eval Constant int" => (with_reducible refine const_i ?_)
  k_with "binaryOp Add int int" => (with_reducible refine add_i ?_)
  k_with "binaryOp Sub int int" => (with_reducible refine sub_i ?_)
  trivial
theorem kw_Jx48 : True := by
  k_with "eval ListComp" => (k_here; first
  | ((with_reducible show wpAny _ _ (eval (PySem.Expr.ListComp _ [⟨PySem.Expr.Name _ _, _, [], 0⟩] _ _) _) _ _ _); k_dflt (refine ListComp_G (_F₀ := by k_asm) (by with_unfolding_all rfl) (by decide) (by rfl) (by decide) (by rfl) ?_))
  | ((with_reducible show wpAny _ _ (eval (PySem.Expr.ListComp _ [⟨PySem.Expr.Name _ _, _, [_], 0⟩] _ _) _) _ _ _); k_dflt (refine LCt.ListComp_T (F₀ := by k_asm) (by with_unfolding_all rfl) (by decide) (by rfl) (by decide) (by rfl) ?_)))
  trivial
theorem kw_Jx49 : True := by
  k_with "CompSrcT" => (k_here; k_dflt (refine LCt.CompSrcT.ledger (by rfl) (by k_asm) (by k_asm) (by k_mem) (by assumption) ?_))
  trivial
theorem kw_Jx50 : True := by
  k_with "call builtin:len" => (k_here; k_dflt (refine' len_SL ?mqhl ?mqhi ?mqhz (fun _ _ => ?_); (case mqhl => kmk_list); (case mqhi => assumption); (case mqhz => first | assumption | exact Nat.le_trans (by assumption) (by decide) | omega)))
  trivial
theorem kw_Jx51 : True := by
  k_with "subscriptTail" => (k_here; (with_reducible show wpAny _ _ (subscriptTail _ _ (Value.ref _) (Value.int _ _)) _ _ _); first
  | (k_dflt (refine' item_SL ?mqhl ?mqhi ?mqhz ?mqh0 ?mqh1 (fun t' => ?_) ?mqhs ?mqht; (case mqhl => kmk_list); (case mqhi => assumption); (case mqhz => first | assumption | exact Nat.le_trans (by assumption) (by decide) | omega); (case mqh0 => first | assumption | exact Nat.le_trans (by assumption) (by decide) | omega); (case mqh1 => first | assumption | exact Nat.le_trans (by assumption) (by decide) | omega)); (case mqhs => with_unfolding_all rfl); (case mqht => intro _; with_unfolding_all rfl))
  | ((with_reducible show wpAny _ _ (subscriptTail _ _ (Value.ref _) (Value.int (-1) _)) _ _ _); k_dflt (refine' item_SLn ?mqhl ?mqhi ?mqhz ?mqh1 (fun _ => ?_) ?mqhs ?mqht; (case mqhl => kmk_list); (case mqhi => assumption); (case mqhz => first | assumption | exact Nat.le_trans (by assumption) (by decide) | omega); (case mqh1 => first | assumption | exact Nat.le_trans (by assumption) (by decide) | omega)); (case mqhs => with_unfolding_all rfl); (case mqht => intro _; with_unfolding_all rfl)); (try (revert t'; intro _)))
  trivial
theorem kw_Jx52 : True := by
  k_with "call builtin:str.join" => (k_here; k_dflt (refine' join_S ?mqhx ?mqhl ?mqhi ?mqhs (fun _ _ => ?_); (case mqhx => rfl); (case mqhl => kmk_list); (case mqhi => assumption); (case mqhs => assumption)))
  trivial
theorem kw_Jx53 : True := by
  k_with "call builtin:list.append" => (k_here; (with_reducible show wpAny _ _ (call (Value.builtin _) [Value.ref _, _]) _ _ _); k_dflt (refine' append_K ?mqk1 ?mqk2 ?mqk3 ?_ ?mqz; (case mqk1 => k_asm); (case mqk2 => k_asm); (case mqk3 => k_upd); (case mqz => assumption); k_whole); intro _ _ _)
  trivial
theorem kw_Jx54 : True := by
  k_with "setItem ref int" => (k_here; first
  | ((with_reducible show wpAny _ _ (setItem _ (Value.int (-1) _) _) _ _ _); k_dflt (refine' set_last ?mqk1 ?mqk2 ?mqk3 ?mqz ?_; (case mqk1 => k_asm); (case mqk2 => k_asm); (case mqk3 => k_upd); (case mqz => first | assumption | exact Nat.le_trans (by assumption) (by decide) | omega)); intro h' F' N')
  | (k_dflt (refine' set_nat ?mqk1 ?mqk2 ?mqk3 ?mqz0 ?mqz1 ?mqz ?_; (case mqk1 => k_asm); (case mqk2 => k_asm); (case mqk3 => k_upd); (case mqz0 => first | assumption | exact Nat.le_trans (by assumption) (by decide) | omega); (case mqz1 => first | assumption | exact Nat.le_trans (by assumption) (by decide) | omega); (case mqz => first | assumption | exact Nat.le_trans (by assumption) (by decide) | omega)); intro _ _ _); (try (revert h'; intro _)); (try (revert F'; intro _)); (try (revert N'; intro _)))
  trivial
theorem kw_Jx55 : True := by
  k_with "subscriptTail" => (k_here; (with_reducible show wpAny _ _ (subscriptTail _ _ (Value.str _ _) (Value.int (-1) _)) _ _ _); with_unfolding_all refine' item_Sn ?mqhx ?mqh1 ?mqh2 (fun _ _ => ?_) ?mqhs ?mqht; (case mqhx => first | rfl | exact ofS _ | exact S_of _); (case mqh1 => first | assumption | exact Nat.le_trans (by assumption) (by decide) | omega); (case mqh2 => first | assumption | exact Nat.le_trans (by assumption) (by decide) | omega); (case mqhs => with_unfolding_all rfl); (case mqht => intro _; with_unfolding_all rfl))
  trivial

theorem list_map_esc (w : World) {dp un : Nat} {gd : Option (List Code)} {cn : Str} {cs : Scope} {L a : Addr} {ccd : Value} {cl : List (Str × Addr)} {outer : List Env} {A₀ : Around} {base h₀ : Heap} {loose : List Str} {mean : ExcName → Option Value} {mg mb : Str → Option Value} {m : Str → Option Value} {news : List (Addr × Obj)} {s : Shared} {Q E : Value → Shared → Prop}
    {z T1 i1 D : Addr} {vs : List Value} {ls : List (List Nat)}
    (B : Below A₀ base outer h₀) (F : Fr h₀ L s.heap m) (N : News h₀ L s.heap ((z, { cls := .type "map", dict := none, data := .fields #[.ref T1, .ref 50], slots := #[] }) :: (T1, { cls := .type "tuple", data := .seq #[.ref i1] }) :: (i1, { cls := .type "list_iterator", data := .fields #[.ref D, .int 0 0] }) :: news))
    (X : (Mine.heapK w.params).In h₀) (T : Top topProg loose mean mg mb h₀) (hk : cs.kind = .function) (hd : Room dp 5) (hu : Units (un + 3) 5)
    (hD : LCg.SrcAt h₀ D vs.toArray news) (hi : StrsAre vs (ls.map S)) (hl : ∀ l ∈ ls, (∀ c ∈ l, c < 128) ∧ l.length ≤ 10000) (hn : vs.length ≤ 100000)
    (hzi : z ≠ i1) (hTi : T1 ≠ i1) (hDi : D ≠ i1) (off : ∀ p ∈ news, p.1 ≠ i1)
    (h : ∀ D' h' tk vs' c, StrsAre vs' ((ls.map esc).map S) → Fr h₀ L h' m → News h₀ L h' ((D', W.listOf vs'.toArray c) :: news) → (∀ p ∈ news, p.1 < D') → Q (.ref D') { s with heap := h', toks := tk }) :
    wpAny (model PySem.Challenge.rw_kq0056_01.row.prog w) (ktrTop dp un gd cn cs L a ccd cl outer) (call (.type "list") [.ref z]) Q E s := by
  have hz : IsMap s.heap z T1 (.ref 50) := (N _ (.head _)).1
  have hT1 : IsOne s.heap T1 (.ref i1) := (N _ (.tail _ (.head _))).1
  have hI := N _ (.tail _ (.tail _ (.head _)))
  have hi1 : s.heap.IsListIter i1 D 0 := ⟨_, hI.1, rfl, rfl⟩
  have N0 : News h₀ L s.heap news := fun p hp => N p (.tail _ (.tail _ (.tail _ hp)))
  have hlD : s.heap.IsList D vs.toArray := hD.list F.keep N0
  have hLi : L ≠ i1 := Ne.symm hI.2.1
  have W := m_walks (prog := PySem.Challenge.rw_kq0056_01.row.prog) (w := w) (A := (ktrTop dp un gd cn cs L a ccd cl outer).in1.in1) (P := fun i v => StrAt (ls.map esc) i v) rfl (Heap.lt_size hI.1) hTi hzi hDi hz hT1 hlD (fun i x s' Q' E' hx hk' hQ' => by
    obtain ⟨b, t, hb, rfl⟩ := strs_get hi i x (by simpa using hx)
    obtain ⟨a1, a2⟩ := hl b (List.mem_of_getElem? hb)
    have F' : Fr h₀ L s'.heap m := ⟨F.ns.at' fun o e => hk' _ o hLi e, fun b o e => hk' b o (fun q => by rw [q, hI.2.2] at e; cases e) (F.keep b o e), F.above⟩
    exact Spec.use (c_escape w b a1 a2 t) (dp := dp) (un := un + 3) B F' X News.nil T hk hd hu trivial fun v h' tk' _ _ k r => hQ' v h' tk' (by
      obtain ⟨t', rfl⟩ := r
      exact ⟨esc b, t', by rw [List.getElem?_map, hb]; rfl, rfl⟩) k)
  refine m_list W (fun i h st => ⟨_, st.1 _ _ hzi hz, rfl⟩) ⟨fun _ _ _ e => e, hi1⟩ (fun b hb => List.mem_range.mp hb) (List.mem_range.mpr (Heap.lt_size hz)) (fun h' tk acc' c' hk' hS' hacc => ?_) (by rw [sizeLine_eq, List.size_toArray]; omega)
  have hk2 : ∀ b o, b ≠ i1 → s.heap.get? b = some o → h'.get? b = some o := fun b o hb e => hk' b o (fun x => hb (List.mem_singleton.mp x)) e
  have F' : Fr h₀ L h' m := ⟨F.ns.at' fun o e => hk2 _ o hLi e, fun b o e => hk2 b o (fun q => by rw [q, hI.2.2] at e; cases e) (F.keep b o e), F.above⟩
  refine h _ h' tk acc'.toList c' ?_ F' (fun p hp => ?_) fun p hp => Heap.lt_size (N0 p hp).1
  · obtain ⟨h1, h2⟩ := hacc
    refine strs_at (ls := ls.map esc) ?_ fun i y hy => h2 i y (by simpa using hy)
    rw [Array.length_toList, h1, List.size_toArray, List.length_map, strs_len hi]
  · rcases List.mem_cons.mp hp with rfl | hp
    · refine ⟨hS', Nat.ne_of_gt F.ns.lt, ?_⟩
      cases e : h₀.get? s.heap.objs.size with
      | none => rfl
      | some o => exact absurd (Heap.lt_size (F.keep _ _ e)) (Nat.lt_irrefl _)
    · exact ⟨hk2 _ _ (off p hp) (N0 p hp).1, (N0 p hp).2⟩
theorem mapK {prog : Program} {w : World} {A : Around} {E : Value → Shared → Prop} {s : Shared} {h₀ : Heap} {L D : Addr} {m : Str → Option Value} {news : List (Addr × Obj)} {f : Value} {items : Array Value} {Q : Value → Shared → Prop} (F : Fr h₀ L s.heap m) (N : News h₀ L s.heap news) (hl : s.heap.IsList D items)
    (h : ∀ z T1 i1 h', Fr h₀ L h' m → News h₀ L h' ((z, { cls := .type "map", dict := none, data := .fields #[.ref T1, f], slots := #[] }) :: (T1, { cls := .type "tuple", data := .seq #[.ref i1] }) :: (i1, { cls := .type "list_iterator", data := .fields #[.ref D, .int 0 0] }) :: news) → z ≠ i1 → T1 ≠ i1 → D ≠ i1 → (∀ p ∈ news, p.1 ≠ i1) → Q (.ref z) { s with heap := h' }) :
    wpAny (model prog w) A (call (.type "map") [f, .ref D]) Q E s := by
  have fresh : ∀ b, s.heap.objs.size ≤ b → h₀.get? b = none := fun b hb => by
    cases e : h₀.get? b with
    | none => rfl
    | some o => exact absurd (Heap.lt_size (F.keep _ _ e)) (Nat.not_lt.mpr hb)
  have hL := F.ns.lt
  refine call_map_2 hl fun h' a1 a2 a3 a4 a5 => h _ _ _ h' (fr_kept F a5) (fun p hp => ?_) (by intro e; have : s.heap.objs.size + 2 = s.heap.objs.size := e; omega) (by intro e; have : s.heap.objs.size + 1 = s.heap.objs.size := e; omega) ?_ fun p hp => Nat.ne_of_lt (Heap.lt_size (N p hp).1)
  · rcases List.mem_cons.mp hp with rfl | hp
    · exact ⟨a1, Nat.ne_of_gt (Nat.lt_succ_of_lt (Nat.lt_succ_of_lt hL)), fresh _ (by show s.heap.objs.size ≤ s.heap.objs.size + 2; omega)⟩
    · rcases List.mem_cons.mp hp with rfl | hp
      · exact ⟨a2, Nat.ne_of_gt (Nat.lt_succ_of_lt hL), fresh _ (by show s.heap.objs.size ≤ s.heap.objs.size + 1; omega)⟩
      · rcases List.mem_cons.mp hp with rfl | hp
        · exact ⟨a3, Nat.ne_of_gt hL, fresh _ (Nat.le_refl _)⟩
        · exact ⟨a5 _ _ (N p hp).1, (N p hp).2⟩
  · obtain ⟨o, e, _⟩ := hl
    exact Nat.ne_of_lt (Heap.lt_size e)
theorem splitS {prog : Program} {w : World} {A : Around} {E : Value → Shared → Prop} {s : Shared} {h₀ : Heap} {L : Addr} {m : Str → Option Value} {news : List (Addr × Obj)} {x : PySem.Str} {l : List Nat} {t u : Tok} {Q : Value → Shared → Prop} (F : Fr h₀ L s.heap m) (N : News h₀ L s.heap news) (hx : x = S l) (hsz : l.length ≤ 10000)
    (h : ∀ D vs h' k, StrsAre vs ((stars l).map S) → Fr h₀ L h' m → News h₀ L h' ((D, W.listOf vs.toArray 0) :: news) → (∀ p ∈ news, p.1 < D) → Q (.ref D) { s with heap := h', toks := k }) :
    wpAny (model prog w) A (call (.builtin "str.split") [.str x t, .str (PySem.Str.ofString "*") u]) Q E s := by
  subst hx
  refine KSpl.split1 F N (by rfl) (fun D l' h' k e hs F' N' lt => h D _ h' k ?_ F' N' lt) (by rw [S_len, sizeLine_eq]; omega)
  rw [← splitL_eq, splitL_S, ← e]
  exact hs
theorem emp_len : PySem.Str.empty.length = 0 := rfl
theorem kw_Jx56 : True := by
  k_with "call builtin:str.split" => (k_here; k_dflt (refine' splitS ?mqk1 ?mqk2 ?mqhx ?mqhs ?_; (case mqk1 => k_asm); (case mqk2 => k_asm); (case mqhx => rfl); (case mqhs => first | assumption | exact Nat.le_trans (by assumption) (by decide) | omega)); intro _ _ _ _ _ _ _ _)
  trivial
theorem kw_Jx57 : True := by
  k_with "call type:map" => (k_here; k_dflt (refine' mapK ?mqk1 ?mqk2 ?mqhl ?_; (case mqk1 => k_asm); (case mqk2 => k_asm); (case mqhl => kmk_list)); intro _ _ _ _ _ _ _ _ _ _)
  trivial
theorem kw_Jx58 : True := by
  k_with "formatField str" => (k_here; (with_reducible show wpAny _ _ (formatField (Value.str (S _) _) _) _ _ _); k_dflt (refine' formatField_str (fun _ _ => ?_) ?mqhz; (case mqhz => (rw [S_len, sizeLine_eq]; omega))))
  trivial
theorem kw_Jx59 : True := by
  k_with "le" => (k_here; (with_reducible show PySem.Str.length _ ≤ _); (simp only [strLen_append, ofS, S_len, emp_len, sizeLine_eq]); omega)
  trivial
theorem kw_Jx60 : True := by
  k_with "joinParts" => (k_here; (first | (with_reducible show wpAny _ _ (joinParts _ []) _ _ _) | (with_reducible show wpAny _ _ (joinParts _ (evalEach [] _)) _ _ _)); k_dflt (refine joinParts_nil ?_ (by ((simp only [strLen_append, ofS, S_len, emp_len, sizeLine_eq]); omega))))
  trivial

noncomputable def W (i : Nat) (ps : List (List Nat)) : List (List Nat) := ps.mapIdx fun j p => if 1 ≤ j ∧ j < 1 + i then wrap p else p
theorem W_len (i : Nat) (ps : List (List Nat)) : (W i ps).length = ps.length := by simp [W]
theorem W_zero (ps : List (List Nat)) : W 0 ps = ps := by
  unfold W
  refine List.ext_getElem? fun j => ?_
  rw [List.getElem?_mapIdx]
  cases ps[j]? with
  | none => rfl
  | some p => simp only [Option.map_some]; rw [if_neg (by omega)]
theorem W_get (i : Nat) (ps : List (List Nat)) : (W i ps).getD (1 + i) [] = ps.getD (1 + i) [] := by
  unfold W
  simp only [List.getD, List.getElem?_mapIdx]
  cases ps[1 + i]? with
  | none => rfl
  | some p => simp only [Option.map_some]; rw [if_neg (by omega)]
theorem W_succ (i : Nat) (ps : List (List Nat)) : (W i ps).set (1 + i) (wrap (ps.getD (1 + i) [])) = W (i + 1) ps := by
  refine List.ext_getElem? fun j => ?_
  by_cases h : 1 + i = j
  · subst h
    rw [List.getElem?_set]
    simp only [W, List.getElem?_mapIdx, List.getD, List.length_mapIdx, if_true]
    by_cases hl : 1 + i < ps.length
    · rw [if_pos hl, List.getElem?_eq_getElem hl]
      simp only [Option.map_some, Option.getD_some]
      rw [if_pos (by omega)]
    · rw [if_neg hl, List.getElem?_eq_none (by omega)]; rfl
  · rw [List.getElem?_set_ne h]
    simp only [W, List.getElem?_mapIdx]
    cases ps[j]? with
    | none => rfl
    | some p =>
      simp only [Option.map_some]
      by_cases hj : 1 ≤ j ∧ j < 1 + i
      · rw [if_pos hj, if_pos (by omega)]
      · rw [if_neg hj, if_neg (by omega)]
theorem W_sum : ∀ (i : Nat) (ps : List (List Nat)), ((W i ps).map List.length).sum ≤ (ps.map List.length).sum + 7 * ps.length := by
  intro i ps
  have key : ∀ (f : Nat → List Nat → List Nat), (∀ j p, (f j p).length ≤ p.length + 7) → ((ps.mapIdx f).map List.length).sum ≤ (ps.map List.length).sum + 7 * ps.length := by
    induction ps with
    | nil => intro f _; simp
    | cons a r ih =>
      intro f hf
      rw [List.mapIdx_cons]
      have h1 := ih (fun j => f (j + 1)) fun j p => hf (j + 1) p
      have h2 := hf 0 a
      simp only [List.map_cons, List.sum_cons, List.length_cons]; omega
  refine key _ fun j p => ?_
  split
  · rw [wrap_len]; omega
  · omega
theorem W_shape (a z : List Nat) (mid : List (List Nat)) : W mid.length (a :: (mid ++ [z])) = a :: (mid.map wrap ++ [z]) := by
  unfold W
  refine List.ext_getElem? fun j => ?_
  rw [List.getElem?_mapIdx]
  cases j with
  | zero => rfl
  | succ j =>
    simp only [List.getElem?_cons_succ]
    rcases Nat.lt_trichotomy j mid.length with h | h | h
    · rw [List.getElem?_append_left h, List.getElem?_append_left (by simpa using h), List.getElem?_map, List.getElem?_eq_getElem h]
      simp only [Option.map_some]
      rw [if_pos (by omega)]
    · subst h
      rw [List.getElem?_append_right (Nat.le_refl _), List.getElem?_append_right (by simp)]
      simp only [List.length_map, Nat.sub_self]
      show some (if _ then _ else _) = some z
      rw [if_neg (by omega)]
    · rw [List.getElem?_eq_none (by simp; omega), List.getElem?_eq_none (by simp; omega)]; rfl
theorem W_end (ps : List (List Nat)) (h : 1 ≤ ps.length) : ((W (ps.length - 2) ps).set (ps.length - 1) (lit ".*" ++ (W (ps.length - 2) ps).getD (ps.length - 1) [])).flatten = lawText ps := by
  match ps, h with
  | [a], _ => simp [W, lawText]
  | a :: b :: r, _ =>
    obtain ⟨mid, z, e⟩ : ∃ mid z, b :: r = mid ++ [z] := ⟨(b :: r).dropLast, (b :: r).getLast (by simp), (List.dropLast_concat_getLast _).symm⟩
    rw [e]
    have h1 : (a :: (mid ++ [z])).length = mid.length + 2 := by simp
    rw [h1, show mid.length + 2 - 2 = mid.length by omega, show mid.length + 2 - 1 = mid.length + 1 by omega, W_shape]
    have h2 : (a :: (mid.map wrap ++ [z])).getD (mid.length + 1) [] = z := by
      simp only [List.getD, List.getElem?_cons_succ]
      rw [List.getElem?_append_right (by simp)]; simp
    have h3 : ∀ y, (a :: (mid.map wrap ++ [z])).set (mid.length + 1) y = a :: (mid.map wrap ++ [y]) := fun y => by
      rw [List.set_cons_succ, List.set_append_right _ _ (by simp)]; simp
    rw [h2, h3]
    unfold lawText mids
    rw [h1, if_neg (by omega)]
    have h4 : ((a :: (mid ++ [z])).drop 1).take (mid.length + 2 - 2) = mid := by simp
    have h5 : (a :: (mid ++ [z])).getD (mid.length + 2 - 1) [] = z := by
      simp only [List.getD, show mid.length + 2 - 1 = mid.length + 1 by omega, List.getElem?_cons_succ]
      rw [List.getElem?_append_right (Nat.le_refl _)]; simp
    rw [h4, h5]
    simp
theorem set_sum : ∀ (ls : List (List Nat)) (j : Nat) (a : List Nat), ((ls.set j a).map List.length).sum ≤ (ls.map List.length).sum + a.length
  | [], _, _ => by simp
  | b :: r, 0, a => by simp only [List.set_cons_zero, List.map_cons, List.sum_cons]; omega
  | b :: r, j + 1, a => by have := set_sum r j a; simp only [List.set_cons_succ, List.map_cons, List.sum_cons]; omega
theorem f_wrap (a : List Nat) : PySem.Str.empty ++ PySem.Str.ofString "(?>.*?" ++ S a ++ PySem.Str.ofString ")" = S (wrap a) := by
  rw [show PySem.Str.empty = S [] from rfl, ofS, ofS, S_app, S_app, S_app]; rfl
theorem f_dot (a : List Nat) : PySem.Str.empty ++ PySem.Str.ofString ".*" ++ S a = S (lit ".*" ++ a) := by
  rw [show PySem.Str.empty = S [] from rfl, ofS, S_app, S_app]; rfl
theorem kw_Jx61 : True := by
  k_with "call type:list" => (k_here; (with_reducible show wpAny _ _ (call (Value.type "list") [Value.ref _]) _ _ _); k_dflt (refine' list_map_esc _ ?mqB ?mqF ?mqN ?mqX ?mqT ?mqhk ?mqhd ?mqhu ?mqhD ?mqhi ?mqhl ?mqhn ?mqa ?mqb ?mqc ?mqoff ?_; (case mqB => k_asm); (case mqF => k_asm); (case mqN => k_asm); (case mqX => k_asm); (case mqT => k_asm); (case mqhk => exact rfl); (case mqhd => ktr_room); (case mqhu => ktr_units); (case mqhD => exact .inr ⟨_, .head _, rfl, _, rfl⟩); (case mqhi => assumption); (case mqhl => assumption); (case mqhn => (rw [strs_len (by assumption)]; omega)); (case mqa => assumption); (case mqb => assumption); (case mqc => assumption); (case mqoff => assumption)); intro _ _ _ _ _ _ _ _ _)
  trivial
theorem kw_Jx62 : True := by
  k_with "exec For Name Call cons nil" => (k_here; walk_at "mine:forG")
  trivial
theorem esc_sum : ∀ ls : List (List Nat), ((ls.map esc).map List.length).sum ≤ 2 * (ls.map List.length).sum
  | [] => Nat.le_refl _
  | a :: r => by have h1 := esc_sum r; have h2 := esc_len a; simp only [List.map_cons, List.sum_cons]; omega
theorem range_size (b : Int) : Builtin.Range.rangeSize 1 b 1 = if 1 < b then b - 1 else 0 := by
  unfold Builtin.Range.rangeSize
  split <;> split <;> omega
theorem range_small (b : Int) (h0 : -10 ≤ b) (h1 : b ≤ 100000) : Builtin.Range.small 1 b 1 = true := by
  exact PySem.small_one (by decide) (by decide) (by omega) (by omega)
theorem kw_Jx63 : True := by
  k_with "call builtin:str.join" => (k_here; k_dflt (refine' join_S ?mqhx ?mqhl ?mqhi ?mqhs (fun _ _ => ?_); (case mqhx => rfl); (case mqhl => kmk_list); (case mqhi => (rw [f_dot]; exact strs_set (by assumption))); (case mqhs => (refine Nat.le_trans (set_sum _ _ _) ?_; simp only [List.length_append]; omega))))
  trivial
theorem tp_ix {i n e w v l : Nat} (h : i < n - 2) (he : e = n) (hw : w = e) (hv : v = w) (hn : n ≤ l + 1) (hl : l ≤ 1000) : 0 ≤ 1 + (i : Int) ∧ 1 + (i : Int) < (w : Int) ∧ 1 + (i : Int) < (v : Int) ∧ w ≤ 100000 ∧ v ≤ 100000 := by
  subst hv hw he
  have h1 : 1 + i < v := by omega
  have h2 : v ≤ 100000 := by omega
  exact ⟨Int.natCast_nonneg (1 + i), Int.ofNat_lt.mpr h1, Int.ofNat_lt.mpr h1, h2, h2⟩
theorem c_tp (w : World) (l : List Nat) (hl : ∀ c ∈ l, c < 128) (hsz : l.length ≤ 1000) (t : Tok) :
    Spec w 12 57 [.str (S l) t] [] (fun _ => True) (fun _ _ v => ∃ t, v = .str (S (lawText ((stars l).map esc))) t) := by
  have hst : ∀ a ∈ stars l, (∀ c ∈ a, c < 128) ∧ a.length ≤ 10000 := fun a ha => ⟨fun c hc => hl c (stars_mem l a ha c hc), by
    have h1 := (stars_len l).2
    have h2 : a.length ≤ ((stars l).map List.length).sum := by
      obtain ⟨k, hk, e⟩ := List.mem_iff_getElem.mp ha
      have := sum_getD (stars l) k
      simp only [List.getD, List.getElem?_eq_getElem hk, Option.getD_some, e] at this
      exact this
    omega⟩
  obtain ⟨hs1, hsS⟩ := stars_len l
  have hs3 := stars_pos l
  have he1 : ((stars l).map esc).length = (stars l).length := List.length_map ..
  have he2 := esc_sum (stars l)
  have l1 : (lit ".*").length = 2 := by decide +kernel
  have l2 : (lit "(?>.*?").length = 6 := by decide +kernel
  have l3 : (lit ")").length = 1 := by decide +kernel
  unfold Spec
  k_fill
  intros; rename_i hret
  refine wpAny_call ?_
  k_dflt cell_enter
  rename _ = Shared.heap _ => hgg
  k_steps
  rename_i n4 D2 y1 y2 vs2 c2 hs2 l2 y4 y5 y6 y7 y8 y9 y10 y11 y12 t1 u1 v1 hR hF hN hK
  refine fr_gen hF fun m1 hm1 hF => ?_
  refine for_range (n := (stars l).length - 2) (σ := List Value × Nat) (fun _ c => [(D2, W.listOf c.1.toArray c.2)]) (fun _ _ => [(Str.ofString "parts", .ref D2)]) (fun i c => StrsAre c.1 ((W i ((stars l).map esc)).map S)) [Str.ofString "i"] (vs2, c2)
    (by rfl) (by rfl) (by rfl) hR ?_ ?_ hF (kst_newsOf hN (by kst_inAny)) (fun p hp => (hm1 _).trans (by revert p; repeat (first | exact fnil | refine fcons rfl ?_))) (by rw [W_zero]; exact hs2) ?_ ?_
  · exact range_small _ (by omega) (by omega)
  · rw [range_size]; omega
  · intro g i c u v I oI h tk E' hi9 hinv hv F N off
    obtain ⟨t9, rfl⟩ := hv
    have b1 := W_len i ((stars l).map esc)
    have b2 := W_sum i ((stars l).map esc)
    have b3 := sum_getD (W i ((stars l).map esc)) (1 + (i : Int)).toNat
    have b5 := strs_len hinv
    obtain ⟨g0, g1, g2, g3, g4⟩ := tp_ix hi9 he1 b1 b5 hs1 hsz
    have bE : ((W i ((stars l).map esc)).getD (1 + (i : Int)).toNat []).length ≤ 10000 := by omega
    clear b2 b3 he2 hsS
    have hTI : D2 ≠ I := off _ (.head _)
    have hIT : I ≠ D2 := Ne.symm hTI
    dsimp only [List.cons_append, List.nil_append, kstB] at N F hinv ⊢
    walk_at "mine:turn"
    k_steps
    walk_at "mine:zeta"
    rename News _ _ _ _ => nE
    refine for_end (c := (_, _)) (by k_asm) nE (by k_mem) (by kst_in) (fun p hp => by rw [List.mem_singleton.mp hp]; exact hTI) (by kst_all) (by ksw_same) ?_
    show StrsAre _ ((W (i + 1) ((stars l).map esc)).map S)
    have e1 : (1 + (i : Int)).toNat = 1 + i := Int.toNat_natCast (1 + i)
    dsimp only
    rw [← W_succ, ← W_get, e1, f_wrap]
    exact strs_set hinv
  · intro g c u h tk hinv F N
    have b1 := W_len ((stars l).length - 2) ((stars l).map esc)
    have b2 := W_sum ((stars l).length - 2) ((stars l).map esc)
    have b3 := sum_getD (W ((stars l).length - 2) ((stars l).map esc)) ((W ((stars l).length - 2) ((stars l).map esc)).length - 1)
    have b5 := strs_len hinv
    have bF : ((W ((stars l).length - 2) ((stars l).map esc)).getD ((W ((stars l).length - 2) ((stars l).map esc)).length - 1) []).length ≤ 10000 := by omega
    have bG : ((W ((stars l).length - 2) ((stars l).map esc)).map List.length).sum ≤ 100000 := by omega
    clear b2 b3 he2 hsS
    dsimp only [List.cons_append, List.nil_append, kstB] at N F ⊢
    walk_at "mine:let"
    show wpAny _ _ _ _ _ _
    k_steps
    refine hret _ _ _ (by rw [← hgg]; assumption) ⟨_, congrArg (fun z => Value.str (S z) _) ?_⟩
    rw [b5, b1]
    have := W_end ((stars l).map esc) (by rw [he1]; exact hs3)
    rw [he1] at this ⊢
    exact this
end
section
theorem kz_Trn : True := by
  k_with_none
  k_with "mine:room" => (first | exact Room.lt (by assumption) | exact Room.lt (Room.deep (k := 1) (e := 0) (by assumption) (by decide)) | exact Room.lt (Room.deep (k := 1) (e := 0) (Room.deep (k := 1) (e := 1) (by assumption) (by decide)) (by decide)) | exact Room.deep (by assumption) (by decide) | ((with_reducible show Room _ _); unfold Room; decide) | ((with_reducible show Room _ _); unfold Room; simp only [depth_under_make, depth_under_kw, depth_in1, depth_deeper, depth_caller]; decide))
  k_with "mine:units" => (first | exact Units.deep (by assumption) (by decide) | exact Units.deep2 (by assumption) (by decide) | ((with_reducible show Units _ _); unfold Units; ktr_units))
  k_with "mine:all1" => (first | exact fnil | (refine fcons (by with_unfolding_all rfl) ?_; walk_at "mine:all1"))
  k_with "mine:allin" => (first | exact fnil | (refine fcons (by k_memK) ?_; walk_at "mine:allin") | (intro p9 h9; kst_mem))
  k_with "mine:all" => (first | exact fnil | (refine' fcons ?mqfa ?mqfb; (case mqfa => k_ne); (case mqfb => walk_at "mine:all")))
  k_with "mine:cell" => (first
  | (refine' callP ?mqk1 ?mqk2 ?mqk3 ?mqk5 ?mqkA ?mqkF ?mqkK ?mqk6 ?mqk7 ?mqk8 ?mqk9 ?mqkB ?_ ?mqc2 ?mqc3 ?mqc4 ?mqc5; (case mqkA => exact rfl); (case mqkF => exact rfl); (case mqkK => assumption); (case mqk1 => k_asm); (case mqk2 => k_asm); (case mqk3 => k_asm); (case mqk5 => k_asm); (case mqk6 => k_is); (case mqk7 => k_is); (case mqk8 => ktr_room); (case mqk9 => first | exact BindsTo.of_eq rfl | exact binds_K (by k_in) rfl (by k_is) rfl rfl rfl); (case mqc5 => decide); (case mqkB => exact locs rfl); (case mqc2 => exact rfl); (case mqc3 => exact rfl); (case mqc4 => exact rfl); k_whole; intro _ _ _ _ _ _ _ _ _ _; walk_at "mine:let"; (try dsimp only); (try k_fold); (try walk_at "mine:env"))
  | (refine' callPC ?mqk1 ?mqk2 ?mqk3 ?mqk5 ?mqkA ?mqkF ?mqkK ?mqk6 ?mqk7 ?mqk8 ?mqk9 ?mqkB ?mqkD ?_ ?mqc2 ?mqc3 ?mqc4; (case mqkA => exact rfl); (case mqkF => exact rfl); (case mqkK => assumption); (case mqk1 => k_asm); (case mqk2 => k_asm); (case mqk3 => k_asm); (case mqk5 => k_asm); (case mqk6 => k_is); (case mqk7 => k_is); (case mqk8 => ktr_room); (case mqk9 => first | exact BindsTo.of_eq rfl | exact binds_K (by k_in) rfl (by k_is) rfl rfl rfl); (case mqkB => exact rfl); (case mqkD => decide +kernel); (case mqc2 => exact rfl); (case mqc3 => exact rfl); (case mqc4 => exact rfl); k_whole; intro _ _ _ _ _ _ _ _ N' Y' _ _ _; walk_at "mine:let"; k_cells Y'; (try simp only [List.cons_append, List.nil_append] at N'); (try (revert N'; intro _)); (try dsimp only); (try k_fold); (try walk_at "mine:env")))
  k_with "call type:bytes" => (k_here; (with_reducible show wpAny _ _ (call (Value.type "bytes") [Value.ref _]) _ _ _); k_dflt (refine' KBa.make_K ?mqkbaF ?mqkbaN ?mqkbah ?mqkbal ?mqkbai ?mqkbar ?mqkban ?_; (case mqkbaF => k_asm); (case mqkbaN => k_asm); (case mqkbah => rfl); (case mqkbal => exact News.isList (by k_asm) (by k_mem)); (case mqkbai => first | exact IntsAre.cons _ _ (IntsAre.cons _ _ (IntsAre.cons _ _ (IntsAre.cons _ _ IntsAre.nil))) | exact IntsAre.cons _ _ (IntsAre.cons _ _ IntsAre.nil) | exact IntsAre.cons _ _ IntsAre.nil); (case mqkbar => (repeat (first | exact fnil | refine fcons ⟨by omega, by omega⟩ ?_))); (case mqkban => exact Nat.le_of_ble_eq_true rfl); k_whole); intro _ _ _ _ _ _)
  k_with "call type:list" => (k_here; (with_reducible show wpAny _ _ (call (Value.type "list") [Value.bytes _ _]) _ _ _); first
  | (k_dflt (refine' list_bytes1 ?mqk1 ?mqk2 ?mqk3 ?mqk4 ?_; (case mqk1 => k_asm); (case mqk2 => k_asm); (case mqk3 => rfl); (case mqk4 => assumption)); intro _ _ _ _ _ _ _ l1; (try k_lt l1); (try (revert l1; intro _)))
  | (k_dflt (refine' list_bytes2 ?mqk1 ?mqk2 ?mqk3 ?mqk4 ?_; (case mqk1 => k_asm); (case mqk2 => k_asm); (case mqk3 => rfl); (case mqk4 => assumption)); intro _ _ _ _ _ _ _ _ l1; (try k_lt l1); (try (revert l1; intro _))))
  k_with "exec For Name BinOp cons nil" => (k_here; (with_unfolding_all refine' For_invVF ?mqkF ?mqk1 ?mqk2 ?_; (case mqkF => k_asm); (case mqk1 => exact rfl); (case mqk2 => exact rfl); k_whole))
  k_with "mine:env" => ((show (let AA := _; let EE := _; wpAny _ AA (execs _ EE) _ _ _)); intro AA EE)
  k_with "mine:let" => ((rename Fr _ _ _ _ => lF'); refine fr_let lF' ?_; clear lF'; intro _ _)
  k_with "storeName" => (k_here; k_dflt (refine' storeM ?mqF ?mqN ?_ ?mqhk ?mqhx; (case mqF => k_asm); (case mqN => k_asm); (case mqhk => exact rfl); (case mqhx => exact rfl); k_whole); intro _ _ _ _ _; (try k_sweep))
  k_with "mine:turn" => (walk_at "mine:let"; (show wpAny _ _ _ _ _ _); k_fold)
  k_with "mine:led" => (intro p hp; revert p; repeat (first | exact fnil | refine fcons rfl ?_))
  k_with "mine:same" => ((try dsimp (config := { zetaDelta := true }) only); ksw_same)
  k_with "mine:used" => (intro _ _ _ _ _ _ r9; (obtain ⟨_, e9⟩ := r9); subst e9; (try dsimp only); (try k_fold))
  k_with "mine:usedN" => (intro _ _ _ _ _ _ _ _ _ _; (try dsimp only); (try k_fold))
  k_with "mine:forG" => (k_dflt (refine' For_G ?mqkF ?_; (case mqkF => k_asm)))
  k_with "mine:forT" => (k_dflt (refine' For_T ?mqkF ?_; (case mqkF => k_asm)))
  k_with "call type:type" => (k_here; (with_reducible show wpAny _ _ (call _ [Value.bytes _ _]) _ _ _); refine call_type_of (Tx := "bytes") rfl (by decide +kernel) ?_)
  k_with "pyIter bytes" => ((with_reducible show wpAny _ _ (pyIter (Value.bytes _ _)) (fun it s₂ => LoopAtV _ _ _ _ _ _ _ _ _ it s₂) _ _); k_here; k_bytesUnr)
  k_with "subscriptTail" => (k_here; (with_reducible show wpAny _ _ (subscriptTail (Expr.Name "_B64" _) _ (Value.bytes _ _) (Value.int _ _)) _ _ _); with_unfolding_all refine' b64_item ?mqh0 ?mqh1 (fun _ _ _ _ => ?_) ?mqhs ?mqht; (case mqh0 => first | assumption | exact Nat.le_trans (by assumption) (by decide) | omega); (case mqh1 => first | assumption | exact Nat.le_trans (by assumption) (by decide) | omega); (case mqhs => with_unfolding_all rfl); (case mqht => intro _; with_unfolding_all rfl))
  k_with "binaryOp RShift int int" => (k_here; first
  | (refine' rsh2 ?mqhn ?_; (case mqhn => first | assumption | exact Nat.le_trans (by assumption) (by decide) | omega))
  | (refine' rsh4 ?mqhn ?_; (case mqhn => first | assumption | exact Nat.le_trans (by assumption) (by decide) | omega)))
  k_with "binaryOp LShift int int" => (k_here; first
  | (refine' lsh_ 8 256 ?mqhn ?mqhk ?mqhP ?mqh0 ?mqh1 ?_; (case mqhn => decide); (case mqhk => decide); (case mqhP => decide); (case mqh0 => first | assumption | exact Nat.le_trans (by assumption) (by decide) | omega); (case mqh1 => first | assumption | exact Nat.le_trans (by assumption) (by decide) | omega))
  | (refine' lsh_ 6 64 ?mqhn ?mqhk ?mqhP ?mqh0 ?mqh1 ?_; (case mqhn => decide); (case mqhk => decide); (case mqhP => decide); (case mqh0 => first | assumption | exact Nat.le_trans (by assumption) (by decide) | omega); (case mqh1 => first | assumption | exact Nat.le_trans (by assumption) (by decide) | omega))
  | (refine' lsh_ 4 16 ?mqhn ?mqhk ?mqhP ?mqh0 ?mqh1 ?_; (case mqhn => decide); (case mqhk => decide); (case mqhP => decide); (case mqh0 => first | assumption | exact Nat.le_trans (by assumption) (by decide) | omega); (case mqh1 => first | assumption | exact Nat.le_trans (by assumption) (by decide) | omega))
  | (refine' lsh_ 2 4 ?mqhn ?mqhk ?mqhP ?mqh0 ?mqh1 ?_; (case mqhn => decide); (case mqhk => decide); (case mqhP => decide); (case mqh0 => first | assumption | exact Nat.le_trans (by assumption) (by decide) | omega); (case mqh1 => first | assumption | exact Nat.le_trans (by assumption) (by decide) | omega)))
  k_with "binaryOp BitOr int int" => (k_here; first
  | (refine' or_ 8 256 ?mqhP ?mqh0 ?mqh1 ?mqh2 ?_; (case mqhP => decide); (case mqh0 => first | assumption | exact Nat.le_trans (by assumption) (by decide) | omega); (case mqh1 => first | assumption | exact Nat.le_trans (by assumption) (by decide) | omega); (case mqh2 => first | assumption | exact Nat.le_trans (by assumption) (by decide) | omega))
  | (refine' or_ 6 64 ?mqhP ?mqh0 ?mqh1 ?mqh2 ?_; (case mqhP => decide); (case mqh0 => first | assumption | exact Nat.le_trans (by assumption) (by decide) | omega); (case mqh1 => first | assumption | exact Nat.le_trans (by assumption) (by decide) | omega); (case mqh2 => first | assumption | exact Nat.le_trans (by assumption) (by decide) | omega))
  | (refine' or_ 4 16 ?mqhP ?mqh0 ?mqh1 ?mqh2 ?_; (case mqhP => decide); (case mqh0 => first | assumption | exact Nat.le_trans (by assumption) (by decide) | omega); (case mqh1 => first | assumption | exact Nat.le_trans (by assumption) (by decide) | omega); (case mqh2 => first | assumption | exact Nat.le_trans (by assumption) (by decide) | omega))
  | (refine' or_ 2 4 ?mqhP ?mqh0 ?mqh1 ?mqh2 ?_; (case mqhP => decide); (case mqh0 => first | assumption | exact Nat.le_trans (by assumption) (by decide) | omega); (case mqh1 => first | assumption | exact Nat.le_trans (by assumption) (by decide) | omega); (case mqh2 => first | assumption | exact Nat.le_trans (by assumption) (by decide) | omega)))
  k_with "binaryOp BitAnd int int" => (k_here; first
  | refine and65535 ?_
  | refine and63 ?_
  | refine and15 ?_
  | refine and3 ?_)
  k_with "getMethod bytes" => (k_here; (with_reducible refine method_translate ?_))
  k_with "call builtin:bytes.translate" => (k_here; first
  | (refine' call_urlenc ?mqh1 ?mqh2 (fun _ _ => ?_); (case mqh1 => assumption); (case mqh2 => first | kernel_rfl | decide +kernel))
  | (refine' call_urldec ?mqh1 ?mqh2 (fun _ _ => ?_); (case mqh1 => assumption); (case mqh2 => first | kernel_rfl | decide +kernel)))
  k_with "call type:str" => (k_here; (with_reducible show wpAny _ _ (call (Value.type "str") [Value.bytes _ _, Value.str _ _]) _ _ _); first
  | (refine' call_strword0 ?mqh1 (fun _ _ => ?_); (case mqh1 => assumption))
  | (refine' call_strword ?mqh1 (fun _ _ => ?_); (case mqh1 => assumption)))
  k_with "getMethod str" => (k_here; first | with_reducible refine m_encode ?_ | with_reducible refine m_translate ?_)
  k_with "call builtin:str.encode" => (k_here; refine' call_encword ?mqh1 (fun _ _ => ?_); (case mqh1 => assumption))
  k_with "binaryOp Add str str" => (k_here; refine' add_SS ?mqhx ?mqhy ?mqhsz (fun _ _ => ?_); (case mqhx => first | rfl | exact ofS _ | exact S_of _); (case mqhy => first | rfl | exact ofS _ | exact S_of _); (case mqhsz => ((try simp only [List.length_append, List.length_cons, List.length_nil, List.length_replicate]); omega)))
  k_with "binaryOp Mult str int" => (k_here; refine' mul_S ?mqhx ?mqh0 ?mqh1 (fun _ _ => ?_); (case mqhx => exact ofS _); (case mqh0 => first | assumption | exact Nat.le_trans (by assumption) (by decide) | omega); (case mqh1 => first | assumption | exact Nat.le_trans (by assumption) (by decide) | omega))
  k_with "subscriptTail" => (k_here; (with_reducible show wpAny _ _ (subscriptTail _ _ (Value.str _ _) (Value.int _ _)) _ _ _); with_unfolding_all refine' item_S ?mqhx ?mqh0 ?mqh1 ?mqh2 (fun _ _ => ?_) ?mqhs ?mqht; (case mqhx => first | rfl | exact ofS _ | exact S_of _); (case mqh0 => ktr_rel); (case mqh1 => ktr_rel); (case mqh2 => ktr_rel); (case mqhs => with_unfolding_all rfl); (case mqht => intro _; with_unfolding_all rfl))
  k_with "eval Constant int" => (with_reducible refine const_i ?_)
  k_with "binaryOp Add int int" => (with_reducible refine add_i ?_)
  k_with "binaryOp Sub int int" => (with_reducible refine sub_i ?_)
  trivial
theorem kw_Jx64 : True := by
  k_with "eval ListComp" => (k_here; first
  | ((with_reducible show wpAny _ _ (eval (PySem.Expr.ListComp _ [⟨PySem.Expr.Name _ _, _, [], 0⟩] _ _) _) _ _ _); k_dflt (refine ListComp_G (_F₀ := by k_asm) (by with_unfolding_all rfl) (by decide) (by rfl) (by decide) (by rfl) ?_))
  | ((with_reducible show wpAny _ _ (eval (PySem.Expr.ListComp _ [⟨PySem.Expr.Name _ _, _, [_], 0⟩] _ _) _) _ _ _); k_dflt (refine LCt.ListComp_T (F₀ := by k_asm) (by with_unfolding_all rfl) (by decide) (by rfl) (by decide) (by rfl) ?_)))
  trivial
theorem kw_Jx65 : True := by
  k_with "CompSrcT" => (k_here; k_dflt (refine LCt.CompSrcT.ledger (by rfl) (by k_asm) (by k_asm) (by k_mem) (by assumption) ?_))
  trivial
theorem kw_Jx66 : True := by
  k_with "call builtin:len" => (k_here; k_dflt (refine' len_SL ?mqhl ?mqhi ?mqhz (fun _ _ => ?_); (case mqhl => kmk_list); (case mqhi => assumption); (case mqhz => first | assumption | exact Nat.le_trans (by assumption) (by decide) | omega)))
  trivial
theorem kw_Jx67 : True := by
  k_with "subscriptTail" => (k_here; (with_reducible show wpAny _ _ (subscriptTail _ _ (Value.ref _) (Value.int _ _)) _ _ _); first
  | (k_dflt (refine' item_SL ?mqhl ?mqhi ?mqhz ?mqh0 ?mqh1 (fun t' => ?_) ?mqhs ?mqht; (case mqhl => kmk_list); (case mqhi => assumption); (case mqhz => first | assumption | exact Nat.le_trans (by assumption) (by decide) | omega); (case mqh0 => first | assumption | exact Nat.le_trans (by assumption) (by decide) | omega); (case mqh1 => first | assumption | exact Nat.le_trans (by assumption) (by decide) | omega)); (case mqhs => with_unfolding_all rfl); (case mqht => intro _; with_unfolding_all rfl))
  | ((with_reducible show wpAny _ _ (subscriptTail _ _ (Value.ref _) (Value.int (-1) _)) _ _ _); k_dflt (refine' item_SLn ?mqhl ?mqhi ?mqhz ?mqh1 (fun _ => ?_) ?mqhs ?mqht; (case mqhl => kmk_list); (case mqhi => assumption); (case mqhz => first | assumption | exact Nat.le_trans (by assumption) (by decide) | omega); (case mqh1 => first | assumption | exact Nat.le_trans (by assumption) (by decide) | omega)); (case mqhs => with_unfolding_all rfl); (case mqht => intro _; with_unfolding_all rfl)); (try (revert t'; intro _)))
  trivial
theorem kw_Jx68 : True := by
  k_with "call builtin:str.join" => (k_here; k_dflt (refine' join_S ?mqhx ?mqhl ?mqhi ?mqhs (fun _ _ => ?_); (case mqhx => rfl); (case mqhl => kmk_list); (case mqhi => assumption); (case mqhs => assumption)))
  trivial
theorem kw_Jx69 : True := by
  k_with "call builtin:list.append" => (k_here; (with_reducible show wpAny _ _ (call (Value.builtin _) [Value.ref _, _]) _ _ _); k_dflt (refine' append_K ?mqk1 ?mqk2 ?mqk3 ?_ ?mqz; (case mqk1 => k_asm); (case mqk2 => k_asm); (case mqk3 => k_upd); (case mqz => assumption); k_whole); intro _ _ _)
  trivial
theorem kw_Jx70 : True := by
  k_with "setItem ref int" => (k_here; first
  | ((with_reducible show wpAny _ _ (setItem _ (Value.int (-1) _) _) _ _ _); k_dflt (refine' set_last ?mqk1 ?mqk2 ?mqk3 ?mqz ?_; (case mqk1 => k_asm); (case mqk2 => k_asm); (case mqk3 => k_upd); (case mqz => first | assumption | exact Nat.le_trans (by assumption) (by decide) | omega)); intro h' F' N')
  | (k_dflt (refine' set_nat ?mqk1 ?mqk2 ?mqk3 ?mqz0 ?mqz1 ?mqz ?_; (case mqk1 => k_asm); (case mqk2 => k_asm); (case mqk3 => k_upd); (case mqz0 => first | assumption | exact Nat.le_trans (by assumption) (by decide) | omega); (case mqz1 => first | assumption | exact Nat.le_trans (by assumption) (by decide) | omega); (case mqz => first | assumption | exact Nat.le_trans (by assumption) (by decide) | omega)); intro _ _ _); (try (revert h'; intro _)); (try (revert F'; intro _)); (try (revert N'; intro _)))
  trivial
theorem kw_Jx71 : True := by
  k_with "subscriptTail" => (k_here; (with_reducible show wpAny _ _ (subscriptTail _ _ (Value.str _ _) (Value.int (-1) _)) _ _ _); with_unfolding_all refine' item_Sn ?mqhx ?mqh1 ?mqh2 (fun _ _ => ?_) ?mqhs ?mqht; (case mqhx => first | rfl | exact ofS _ | exact S_of _); (case mqh1 => first | assumption | exact Nat.le_trans (by assumption) (by decide) | omega); (case mqh2 => first | assumption | exact Nat.le_trans (by assumption) (by decide) | omega); (case mqhs => with_unfolding_all rfl); (case mqht => intro _; with_unfolding_all rfl))
  trivial

noncomputable def tr1 (ps : List (Option (List Nat))) (c : Nat) : List (Option (List Nat)) := if c = 42 then (if ps = [] ∨ ps.getD (ps.length - 1) none ≠ none then ps ++ [none] else ps) else ps ++ [some (esc [c])]
noncomputable def trl (l : List Nat) : List (Option (List Nat)) := l.foldl tr1 []
theorem trl_snoc (l : List Nat) (c : Nat) : trl (l ++ [c]) = tr1 (trl l) c := by simp [trl]
theorem trl_len : ∀ (l : List Nat), (trl l).length ≤ l.length := by
  have key : ∀ (l : List Nat) (ps : List (Option (List Nat))), (l.foldl tr1 ps).length ≤ ps.length + l.length := by
    intro l
    induction l with
    | nil => intro ps; simp
    | cons c r ih =>
      intro ps
      have h1 := ih (tr1 ps c)
      have h2 : (tr1 ps c).length ≤ ps.length + 1 := by
        unfold tr1
        split
        · split
          · simp
          · omega
        · simp
      rw [List.foldl_cons, List.length_cons]; omega
  intro l
  have := key l []
  simpa [trl] using this
section
variable {prog : Program} {w : World} {A : Around} {E : Value → Shared → Prop} {s : Shared} {x y : Nat} {a b : PySem.Str} {t u : Tok} {Q : Value → Shared → Prop}
theorem len_SS {a : PySem.Str} {ls : List Nat} (hx : a = S ls) (hz : ls.length ≤ 100000) (h : ∀ t' k, Q (.int (ls.length : Int) t') { s with toks := k }) : wpAny (model prog w) A (call (.builtin "len") [.str a t]) Q E s := by
  subst hx
  refine P.len_str (by rw [S_len]; omega) ?_
  rw [S_len]
  exact h _ _
theorem eqS_no (hx : a = S [x]) (hy : b = S [y]) (h : x ≠ y) (q : Q (.bool false) s) : wpAny (model prog w) A (compareOp .Eq (.str a t) (.str b u)) Q E s := by
  subst hx hy
  refine PyProof.Rows.eq_str ?_
  rw [show (S [x] == S [y]) = false from beq_false_of_ne fun e => h (by have := S_inj.mp e; injection this)]
  exact q
theorem eqS_yes (hx : a = S [x]) (hy : b = S [y]) (h : x = y) (q : Q (.bool true) s) : wpAny (model prog w) A (compareOp .Eq (.str a t) (.str b u)) Q E s := by
  subst hx hy h
  refine PyProof.Rows.eq_str ?_
  rw [show (S [x] == S [x]) = true from beq_iff_eq.mpr rfl]
  exact q
end
section
variable {prog : Program} {w : World} {A : Around} {E : Value → Shared → Prop} {s : Shared} {a b : Int} {t u : Tok} {Q : Value → Shared → Prop}
theorem eqi_f (h : a ≠ b) (q : Q (.bool false) s) : wpAny (model prog w) A (compareOp .Eq (.int a t) (.int b u)) Q E s := by
  refine eq_int ?_
  rw [show (a == b) = false from beq_false_of_ne h]
  exact q
theorem eqi_t (h : a = b) (q : Q (.bool true) s) : wpAny (model prog w) A (compareOp .Eq (.int a t) (.int b u)) Q E s := by
  refine eq_int ?_
  rw [show (a == b) = true from beq_iff_eq.mpr h]
  exact q
end
theorem kw_Jx72 : True := by
  k_with "compareOp Eq int int" => (k_here; refine' eqi_t ?mqh ?_; (case mqh => assumption))
  trivial
theorem s42 : PySem.Str.ofString "*" = S [42] := by decide +kernel
theorem s63 : PySem.Str.ofString "?" = S [63] := by decide +kernel
theorem s91 : PySem.Str.ofString "[" = S [91] := by decide +kernel
theorem nil_or_snoc {α : Type} (l : List α) : l = [] ∨ ∃ i v, l = i ++ [v] := by
  rcases List.eq_nil_or_concat l with h | ⟨i, v, h⟩
  · exact .inl h
  · exact .inr ⟨i, v, by rw [h, List.concat_eq_append]⟩
theorem kw_Jx73 : True := by
  k_with "compareOp Eq str str" => (k_here; first
  | ((with_reducible show wpAny _ _ (compareOp _ _ (Value.str (PySem.Str.ofString "*") _)) _ _ _); first
    | (refine' eqS_no (y := 42) ?mqhx ?mqhy ?mqh ?_; (case mqhx => rfl); (case mqhy => first | exact s42 | exact s63 | exact s91); (case mqh => assumption))
    | (refine' eqS_yes (y := 42) ?mqhx ?mqhy ?mqh ?_; (case mqhx => rfl); (case mqhy => first | exact s42 | exact s63 | exact s91); (case mqh => assumption)))
  | ((with_reducible show wpAny _ _ (compareOp _ _ (Value.str (PySem.Str.ofString "?") _)) _ _ _); (refine' eqS_no (y := 63) ?mqhx ?mqhy ?mqh ?_; (case mqhx => rfl); (case mqhy => first | exact s42 | exact s63 | exact s91); (case mqh => assumption)))
  | ((with_reducible show wpAny _ _ (compareOp _ _ (Value.str (PySem.Str.ofString "[") _)) _ _ _); (refine' eqS_no (y := 91) ?mqhx ?mqhy ?mqh ?_; (case mqhx => rfl); (case mqhy => first | exact s42 | exact s63 | exact s91); (case mqh => assumption))))
  trivial
theorem kw_Jx74 : True := by
  k_with "getAttr ref" => (k_here; k_dflt (refine' bmK ?mqF ?mqN ?mqm ?_; (case mqF => k_asm); (case mqN => k_asm); (case mqm => k_mem)); intro _ _ _ _ _ _)
  trivial
theorem kw_Jx75 : True := by
  k_with "callWith ref" => (k_here; (with_reducible show wpAny _ _ (callWith _ (Value.ref _) _ (backTo _ (starEach (_ :: _) _)) []) _ _ _); k_dflt (refine' callWith_bm ?mqcN ?mqcM ?_; (case mqcN => k_asm); (case mqcM => k_mem); k_whole))
  trivial
theorem kw_Jx76 : True := by
  k_with "And" => ((with_reducible show StandsB _ _ _ ∧ _); k_dflt (refine ⟨standsB (by k_asm) (by k_mem), ?_⟩); (try dsimp only [List.nil_append, List.cons_append]))
  trivial
theorem kw_Jx77 : True := by
  k_with "call ref" => (k_here; k_dflt (refine' boundK ?mqF ?mqN ?mqb ?mqU ?_ ?mqz; (case mqF => k_asm); (case mqN => k_asm); (case mqb => k_mem); (case mqU => k_upd); (case mqz => assumption)); intro _ _ _)
  trivial
theorem kw_Jx78 : True := by
  k_with "call builtin:len" => (k_here; (with_reducible show wpAny _ _ (call _ [Value.str _ _]) _ _ _); k_dflt (refine' len_SS ?mqhx ?mqhz (fun _ _ => ?_); (case mqhx => rfl); (case mqhz => first | assumption | exact Nat.le_trans (by assumption) (by decide) | omega)))
  trivial
local macro_rules | `(tactic| ktr_rel) => `(tactic| omega)
noncomputable def Halt (P : Prop) : Prop := P
theorem halt {P : Prop} (h : Halt P) : P := h
noncomputable def NewPs (h h' : Heap) (st : Value) (ps : List (Option (List Nat))) (v : Value) : Prop := ∃ D vs c, v = .ref D ∧ h.get? D = none ∧ h'.get? D = some (W.listOf vs.toArray c) ∧ PsAre st vs ps
theorem kw_Jx79 : True := by
  k_with "subscriptTail Name Name str int" => (k_here; (with_reducible show wpAny _ _ (subscriptTail _ _ (Value.str _ _) (Value.int _ _)) _ _ _); with_unfolding_all refine' item_S ?mqhx ?mqh0 ?mqh1 ?mqh2 (fun _ _ => ?_) ?mqhs ?mqht; (case mqhx => rfl); (case mqh0 => first | assumption | exact Nat.le_trans (by assumption) (by decide) | omega); (case mqh1 => first | assumption | exact Nat.le_trans (by assumption) (by decide) | omega); (case mqh2 => first | assumption | exact Nat.le_trans (by assumption) (by decide) | omega); (case mqhs => with_unfolding_all rfl); (case mqht => intro _; with_unfolding_all rfl))
  trivial
theorem kw_Jx80 : True := by
  k_with "exec While Compare cons nil" => (k_here; refine halt ?_)
  trivial
theorem kw_Jx81 : True := by
  k_with "KswEnd" => (refine halt ?_)
  trivial
theorem truthyL {prog : Program} {w : World} {A : Around} {E : Value → Shared → Prop} {s : Shared} {D : Addr} {vs : List Value} {b : Bool} {Q : Bool → Shared → Prop} (hl : s.heap.IsList D vs.toArray) (hz : vs.length ≤ 100000) (hb : decide (vs ≠ []) = b) (h : ∀ k, Q b { s with toks := k }) : wpAny (model prog w) A (truthy (.ref D)) Q E s := by
  refine wpAny_truthy_list hl (by simp; omega) ?_
  have e : (!vs.toArray.isEmpty) = b := by rw [← hb]; cases vs <;> simp
  rw [e]; exact h _
theorem item_lastAt {prog : Program} {w : World} {A : Around} {E : Value → Shared → Prop} {s : Shared} {D : Addr} {vs : List Value} {v : Value} {Q : Value → Shared → Prop} {value slice : PySem.Expr} {u : Tok} (hl : s.heap.IsList D vs.toArray) (hv : vs[vs.length - 1]? = some v) (h : Q v s)
    (hs : subscripted slice false (.ref D) (.int (-1) u) = operate [.ref D, .int (-1) u] (getItem (.ref D) (.int (-1) u)) := by with_unfolding_all rfl) (hg : ∀ r, letTemporaryGo value (.ref D) r = pure () := by intro _; with_unfolding_all rfl) :
    wpAny (model prog w) A (subscriptTail value slice (.ref D) (.int (-1) u)) Q E s := by
  have h1 : 1 ≤ vs.length := by
    cases vs with
    | nil => simp at hv
    | cons => simp
  refine subscriptTail_builtin hl.typeIs slot_list_getitem.lookup (wpAny_getItem_list_neg hl (by decide) (by simp; omega) (by decide) (x := v) ?_ h) hs hg
  have e2 : ((-1 : Int) + (vs.toArray.size : Int)).toNat = vs.length - 1 := last_tn h1
  rw [e2]; simpa using hv
theorem kw_Jx82 : True := by
  k_with "truthy ref" => (k_here; k_dflt (refine' truthyL ?mqhl ?mqhz ?mqhb (fun _ => ?_); (case mqhl => kmk_list); (case mqhz => first | assumption | exact Nat.le_trans (by assumption) (by decide) | omega); (case mqhb => assumption)))
  trivial
theorem kw_Jx83 : True := by
  k_with "subscriptTail" => (k_here; (with_reducible show wpAny _ _ (subscriptTail _ _ (Value.ref _) (Value.int (-1) _)) _ _ _); k_dflt (refine' item_lastAt ?mqhl ?mqhv ?_ ?mqhs ?mqht; (case mqhl => kmk_list); (case mqhv => assumption)); (case mqhs => with_unfolding_all rfl); (case mqht => intro _; with_unfolding_all rfl))
  trivial
/-- what a thing must be to stand for a star: it is itself, and no text is it -/
noncomputable def StarOk (w : World) (st : Value) : Prop :=
  (∀ (A : Around) (E : Value → Shared → Prop) (s : Shared) (Q : Value → Shared → Prop), Q (.bool false) s → wpAny (model PySem.Challenge.rw_kq0056_01.row.prog w) A (compareOp .IsNot st st) Q E s) ∧
  (∀ (A : Around) (E : Value → Shared → Prop) (s : Shared) (Q : Value → Shared → Prop) (x : PySem.Str) (t : Tok), Q (.bool true) s → wpAny (model PySem.Challenge.rw_kq0056_01.row.prog w) A (compareOp .IsNot (.str x t) st) Q E s)
theorem star_none (w : World) : StarOk w .none := ⟨fun _ _ _ _ h => isnot_none_none h, fun _ _ _ _ _ _ h => isnot_str_none h⟩
theorem star_ref (w : World) (a : Addr) : StarOk w (.ref a) := ⟨fun _ _ _ _ h => wpAny_isNot_ref_self h, fun _ _ _ _ _ _ h => wpAny_isNot_other (by rfl) (by intro x; cases x) h⟩
theorem StarOk.self {w : World} {st : Value} (h : StarOk w st) {A : Around} {E : Value → Shared → Prop} {s : Shared} {Q : Value → Shared → Prop} (q : Q (.bool false) s) : wpAny (model PySem.Challenge.rw_kq0056_01.row.prog w) A (compareOp .IsNot st st) Q E s := h.1 _ _ _ _ q
theorem StarOk.str {w : World} {st : Value} (h : StarOk w st) {A : Around} {E : Value → Shared → Prop} {s : Shared} {Q : Value → Shared → Prop} {x : PySem.Str} {t : Tok} (q : Q (.bool true) s) : wpAny (model PySem.Challenge.rw_kq0056_01.row.prog w) A (compareOp .IsNot (.str x t) st) Q E s := h.2 _ _ _ _ _ _ q
theorem kw_Jx84 : True := by
  k_with "compareOp IsNot" => (k_here; first | refine StarOk.self (by assumption) ?_ | refine StarOk.str (by assumption) ?_)
  trivial
theorem kw_j11 : True := by
  k_with "call ref" => (k_here; (with_reducible show wpAny _ _ (call (Value.ref 50) _ _) _ _ _); k_dflt (refine' Spec.use (c_escape _ _ (by assumption) (by assumption) _) ?mqk1 ?mqk2 ?mqk3 ?mqk4 ?mqk5 ?mqkK ?mqkd ?mqku ?mqkp ?_; (case mqk1 => k_asm); (case mqk2 => k_asm); (case mqk3 => k_asm); (case mqk4 => k_asm); (case mqk5 => k_asm); (case mqkK => first | exact rfl | assumption); (case mqkd => ktr_room); (case mqku => ktr_units); (case mqkp => exact trivial)); walk_at "mine:used")
  trivial

theorem c_trn (w : World) (st : Value) (hst : StarOk w st) (l : List Nat) (hl : ∀ c ∈ l, c < 128 ∧ c ≠ 63 ∧ c ≠ 91) (hsz : l.length ≤ 1000) (t u : Tok) :
    Spec w 12 171 [.str (S l) t, st, .str (Str.ofString ".") u] [] (fun _ => True) (fun h h' v => NewPs h h' st (trl l) v) := by
  unfold Spec
  k_fill
  intros; rename_i hret
  refine wpAny_call ?_
  k_dflt cell_enter
  rename _ = Shared.heap _ => hgg
  k_steps
  rename_i T hA l1 hB tkA mA b hC tkB lb hD tkC mC t1 k1 D hE lD hF hG tkD mD hH tkE mE F2 N2
  refine fr_gen F2 fun m1 hm1 F2 => ?_
  show wpAny _ _ _ _ _ _
  k_fold
  refine ksw_whileL (σ := Int × Tok × List Value × Nat × Tok) (fun c => [(b, bmObj T), (T, W.listOf c.2.2.1.toArray c.2.2.2.1)]) (fun c => [(Str.ofString "i", .int c.1 c.2.1), (Str.ofString "n", .int (l.length : Int) c.2.2.2.2), (Str.ofString "pat", .str (S l) t), (Str.ofString "STAR", st), (Str.ofString "res", .ref T), (Str.ofString "add", .ref b)]) (fun c => PsAre st c.2.2.1 (trl (l.take c.1.toNat)) ∧ 0 ≤ c.1 ∧ c.1 ≤ (l.length : Int)) [Str.ofString "c"] (fun _ => True) (fun c => l.length - c.1.toNat) (0, _, [], 0, _)
    F2 (fun p hp => N2 p (.tail _ hp)) ⟨.nil, Int.le_refl _, Int.natCast_nonneg _⟩ (fun p hp => (hm1 _).trans (by revert p; repeat (first | exact fnil | refine fcons rfl ?_))) trivial ?_ (by passes_own)
  rintro ⟨k, tk9, vs, n, tn⟩ u h tk ⟨hps, hk0, hk1⟩ _ F N
  intro QQ
  dsimp only at hps hk0 hk1
  dsimp only [kstB] at F N ⊢
  walk_at "mine:let"
  have hbT : b ≠ T := Ne.symm (Nat.ne_of_lt (lb _ (.head _)))
  have hTb : T ≠ b := Ne.symm hbT
  have hvl := ps_len hps
  have htl := trl_len (l.take k.toNat)
  have htk : (l.take k.toNat).length = k.toNat := by rw [List.length_take]; exact min_tn hk1
  have hvz : vs.toArray.size ≤ sizeLine := by rw [sizeLine_eq, List.size_toArray, hvl]; exact Nat.le_trans htl (Nat.le_trans (Nat.le_of_eq htk) (Nat.le_trans (Int.toNat_le.mpr hk1) (Nat.le_trans hsz (by decide))))
  by_cases hlt : k < (l.length : Int)
  · have hkn : k.toNat < l.length := tn_lt hk0 hlt
    have hxe : l[k.toNat]? = some (l.getD k.toNat 0) := by simp [List.getD, hkn]
    obtain ⟨a1, a2, a3⟩ := hl (l.getD k.toNat 0) (List.mem_of_getElem? hxe)
    have hx1 : ∀ c ∈ [l.getD k.toNat 0], c < 128 := fun c hc => by rw [List.mem_singleton.mp hc]; exact a1
    have hx2 : [l.getD k.toNat 0].length ≤ 10000 := by simp
    have htake : l.take (k + 1).toNat = l.take k.toNat ++ [l.getD k.toNat 0] := by
      rw [tn1 hk0, List.take_add_one, hxe]; rfl
    by_cases h42 : l.getD k.toNat 0 = 42
    · rcases nil_or_snoc vs with rfl | ⟨vi, v, rfl⟩
      · have hb0 : decide (([] : List Value) ≠ []) = false := rfl
        have hnil : trl (l.take k.toNat) = [] := List.length_eq_zero_iff.mp hvl.symm
        k_steps
        show KswEnd _ _ _ _ _ _ _ _ _ _ _ _
        walk_at "mine:zeta"
        rename News _ _ _ _ => nE
        simp only [List.push_toArray] at nE
        refine ksw_end (k + 1, _, _, _, _) (by k_asm) nE (by kst_in) ⟨?_, Int.le_add_one hk0, hlt⟩ (by kst_all) (by ksw_same) trivial (dec1 hk0 hlt)
        dsimp only
        rw [htake, trl_snoc]
        rw [tr1, if_pos h42, if_pos (Or.inl hnil)]
        exact ps_snoc_star hps
      · have hb0 : decide (vi ++ [v] ≠ []) = true := by simp
        have hv0 : (vi ++ [v])[(vi ++ [v]).length - 1]? = some v := by simp
        have hne : trl (l.take k.toNat) ≠ [] := fun e => by rw [e] at hvl; simp at hvl
        rcases ps_get hps _ v hv0 with ⟨hp, rfl⟩ | ⟨p, t8, hp, rfl⟩
        · rw [hvl] at hp
          have hq : (trl (l.take k.toNat)).getD ((trl (l.take k.toNat)).length - 1) none = none := by simp only [List.getD, hp]; rfl
          k_steps
          show KswEnd _ _ _ _ _ _ _ _ _ _ _ _
          walk_at "mine:zeta"
          rename News _ _ _ _ => nE
          refine ksw_end (k + 1, _, _, _, _) (by k_asm) nE (by kst_in) ⟨?_, Int.le_add_one hk0, hlt⟩ (by kst_all) (by ksw_same) trivial (dec1 hk0 hlt)
          dsimp only
          rw [htake, trl_snoc]
          rw [tr1, if_pos h42, if_neg (fun h => by rcases h with h | h; exact hne h; exact h hq)]
          exact hps
        · rw [hvl] at hp
          have hq : (trl (l.take k.toNat)).getD ((trl (l.take k.toNat)).length - 1) none ≠ none := by simp only [List.getD, hp]; intro h; cases h
          k_steps
          show KswEnd _ _ _ _ _ _ _ _ _ _ _ _
          walk_at "mine:zeta"
          rename News _ _ _ _ => nE
          simp only [List.push_toArray] at nE
          refine ksw_end (k + 1, _, _, _, _) (by k_asm) nE (by kst_in) ⟨?_, Int.le_add_one hk0, hlt⟩ (by kst_all) (by ksw_same) trivial (dec1 hk0 hlt)
          dsimp only
          rw [htake, trl_snoc]
          rw [tr1, if_pos h42, if_pos (Or.inr hq)]
          exact ps_snoc_star hps
    · k_steps
      show KswEnd _ _ _ _ _ _ _ _ _ _ _ _
      walk_at "mine:zeta"
      rename News _ _ _ _ => nE
      simp only [List.push_toArray] at nE
      refine ksw_end (k + 1, _, _, _, _) (by k_asm) nE (by kst_in) ⟨?_, Int.le_add_one hk0, hlt⟩ (by kst_all) (by ksw_same) trivial (dec1 hk0 hlt)
      dsimp only
      rw [htake, trl_snoc]
      rw [tr1, if_neg h42]
      exact ps_snoc_str hps
  · have hkl : k = (l.length : Int) := Int.le_antisymm hk1 (Int.not_lt.mp hlt)
    k_steps
    have e1 : l.take k.toNat = l := by rw [hkl, Int.toNat_natCast, List.take_length]
    rw [e1] at hps
    refine hret _ _ _ (by rw [← hgg]; assumption) ⟨T, vs, n, rfl, ?_, ?_, hps⟩
    · rw [← hgg]; exact (N _ (.tail _ (.head _))).2.2
    · exact (N _ (.tail _ (.head _))).1

theorem c_trn0 (w : World) (l : List Nat) (hl : ∀ c ∈ l, c < 128 ∧ c ≠ 63 ∧ c ≠ 91) (hsz : l.length ≤ 1000) (t u : Tok) :
    Spec w 12 171 [.str (S l) t, .none, .str (Str.ofString ".") u] [] (fun _ => True) (fun h h' v => NewPs h h' .none (trl l) v) := c_trn w .none (star_none w) l hl hsz t u
theorem c_trn1 (w : World) (a : Addr) (l : List Nat) (hl : ∀ c ∈ l, c < 128 ∧ c ≠ 63 ∧ c ≠ 91) (hsz : l.length ≤ 1000) (t u : Tok) :
    Spec w 12 171 [.str (S l) t, .ref a, .str (Str.ofString ".") u] [] (fun _ => True) (fun h h' v => NewPs h h' (.ref a) (trl l) v) := c_trn w (.ref a) (star_ref w a) l hl hsz t u
end
section
open PySem PySem.W PySem.Calls PyProof.Rows
set_option maxRecDepth 100000
set_option maxHeartbeats 8000000
noncomputable def fin2 : List (Option (List Nat)) → List Nat → List Nat
  | [], cur => lit ".*" ++ cur
  | some p :: r, cur => fin2 r (cur ++ p)
  | none :: r, cur => wrap cur ++ fin2 r []
noncomputable def fin1 : List (Option (List Nat)) → List Nat
  | [] => []
  | some p :: r => p ++ fin1 r
  | none :: r => fin2 r []
end
section
open PySem PySem.W PySem.Calls PyProof.Rows
set_option maxRecDepth 100000
set_option maxHeartbeats 8000000
/-- a call that comes back with a new list -/
theorem Spec.useNew {w : World} {d : Nat} {f : Addr} {vs : List Value} {kw : List (Str × Value)} {Pre : Heap → Prop} {P : List Value → Prop}
    (C : Spec w d f vs kw Pre (fun h h' v => ∃ D vs c, v = .ref D ∧ h.get? D = none ∧ h'.get? D = some (W.listOf vs.toArray c) ∧ P vs))
    {loose : List Str} {mean : ExcName → Option Value} {mg mb : Str → Option Value} {dp un : Nat} {gd : Option (List Code)} {cn : Str} {cs : Scope} {a : Addr} {ccd : Value} {cl : List (Str × Addr)} {outer : List Env} {A₀ : Around} {base h₀ : Heap} {L : Addr} {m : Str → Option Value} {news : List (Addr × Obj)} {s : Shared} {Q E : Value → Shared → Prop}
    (B : Below A₀ base outer h₀) (F : Fr h₀ L s.heap m) (X : (Mine.heapK w.params).In h₀) (N : News h₀ L s.heap news) (T : Top topProg loose mean mg mb h₀) (hk : cs.kind = .function)
    (hd : Room dp d) (hu : Units un d) (hp : Pre s.heap)
    (h : ∀ (D : Addr) (vs : List Value) (c : Nat) (h' : Heap) (tk' : Nat), Fr h₀ L h' m → News h₀ L h' ((D, W.listOf vs.toArray c) :: news) → (∀ p ∈ news, p.1 ≠ D) → Kept s.heap h' → P vs → Q (.ref D) { s with heap := h', toks := tk' }) :
    wpAny (model PySem.Challenge.rw_kq0056_01.row.prog w) (ktrTop dp un gd cn cs L a ccd cl outer) (call (.ref f) vs kw) Q E s :=
  Spec.use C B F X N T hk hd hu hp fun v h' tk' F' N' k r => by
    obtain ⟨D, vs, c, rfl, n, g, p⟩ := r
    have hL : D ≠ L := fun e => by
      obtain ⟨o, ho, _⟩ := LCg.ns_obj F.ns
      rw [← e, n] at ho; cases ho
    have h0 : h₀.get? D = none := by
      cases e : h₀.get? D with
      | none => rfl
      | some o => have := F.keep D o e; rw [n] at this; cases this
    refine h D vs c h' tk' F' (fun q hq => ?_) (fun q hq e => ?_) k p
    · rcases List.mem_cons.mp hq with rfl | hq
      · exact ⟨g, hL, h0⟩
      · exact N' q hq
    · have := (N q hq).1
      rw [e, n] at this; cases this
end
section
theorem kz_Jn : True := by
  k_with_none
  k_with "mine:room" => (first | exact Room.lt (by assumption) | exact Room.lt (Room.deep (k := 1) (e := 0) (by assumption) (by decide)) | exact Room.lt (Room.deep (k := 1) (e := 0) (Room.deep (k := 1) (e := 1) (by assumption) (by decide)) (by decide)) | exact Room.deep (by assumption) (by decide) | ((with_reducible show Room _ _); unfold Room; decide) | ((with_reducible show Room _ _); unfold Room; simp only [depth_under_make, depth_under_kw, depth_in1, depth_deeper, depth_caller]; decide))
  k_with "mine:units" => (first | exact Units.deep (by assumption) (by decide) | exact Units.deep2 (by assumption) (by decide) | ((with_reducible show Units _ _); unfold Units; ktr_units))
  k_with "mine:all1" => (first | exact fnil | (refine fcons (by with_unfolding_all rfl) ?_; walk_at "mine:all1"))
  k_with "mine:allin" => (first | exact fnil | (refine fcons (by k_memK) ?_; walk_at "mine:allin") | (intro p9 h9; kst_mem))
  k_with "mine:all" => (first | exact fnil | (refine' fcons ?mqfa ?mqfb; (case mqfa => k_ne); (case mqfb => walk_at "mine:all")))
  k_with "mine:cell" => (first
  | (refine' callP ?mqk1 ?mqk2 ?mqk3 ?mqk5 ?mqkA ?mqkF ?mqkK ?mqk6 ?mqk7 ?mqk8 ?mqk9 ?mqkB ?_ ?mqc2 ?mqc3 ?mqc4 ?mqc5; (case mqkA => exact rfl); (case mqkF => exact rfl); (case mqkK => assumption); (case mqk1 => k_asm); (case mqk2 => k_asm); (case mqk3 => k_asm); (case mqk5 => k_asm); (case mqk6 => k_is); (case mqk7 => k_is); (case mqk8 => ktr_room); (case mqk9 => first | exact BindsTo.of_eq rfl | exact binds_K (by k_in) rfl (by k_is) rfl rfl rfl); (case mqc5 => decide); (case mqkB => exact locs rfl); (case mqc2 => exact rfl); (case mqc3 => exact rfl); (case mqc4 => exact rfl); k_whole; intro _ _ _ _ _ _ _ _ _ _; walk_at "mine:let"; (try dsimp only); (try k_fold); (try walk_at "mine:env"))
  | (refine' callPC ?mqk1 ?mqk2 ?mqk3 ?mqk5 ?mqkA ?mqkF ?mqkK ?mqk6 ?mqk7 ?mqk8 ?mqk9 ?mqkB ?mqkD ?_ ?mqc2 ?mqc3 ?mqc4; (case mqkA => exact rfl); (case mqkF => exact rfl); (case mqkK => assumption); (case mqk1 => k_asm); (case mqk2 => k_asm); (case mqk3 => k_asm); (case mqk5 => k_asm); (case mqk6 => k_is); (case mqk7 => k_is); (case mqk8 => ktr_room); (case mqk9 => first | exact BindsTo.of_eq rfl | exact binds_K (by k_in) rfl (by k_is) rfl rfl rfl); (case mqkB => exact rfl); (case mqkD => decide +kernel); (case mqc2 => exact rfl); (case mqc3 => exact rfl); (case mqc4 => exact rfl); k_whole; intro _ _ _ _ _ _ _ _ N' Y' _ _ _; walk_at "mine:let"; k_cells Y'; (try simp only [List.cons_append, List.nil_append] at N'); (try (revert N'; intro _)); (try dsimp only); (try k_fold); (try walk_at "mine:env")))
  k_with "call type:bytes" => (k_here; (with_reducible show wpAny _ _ (call (Value.type "bytes") [Value.ref _]) _ _ _); k_dflt (refine' KBa.make_K ?mqkbaF ?mqkbaN ?mqkbah ?mqkbal ?mqkbai ?mqkbar ?mqkban ?_; (case mqkbaF => k_asm); (case mqkbaN => k_asm); (case mqkbah => rfl); (case mqkbal => exact News.isList (by k_asm) (by k_mem)); (case mqkbai => first | exact IntsAre.cons _ _ (IntsAre.cons _ _ (IntsAre.cons _ _ (IntsAre.cons _ _ IntsAre.nil))) | exact IntsAre.cons _ _ (IntsAre.cons _ _ IntsAre.nil) | exact IntsAre.cons _ _ IntsAre.nil); (case mqkbar => (repeat (first | exact fnil | refine fcons ⟨by omega, by omega⟩ ?_))); (case mqkban => exact Nat.le_of_ble_eq_true rfl); k_whole); intro _ _ _ _ _ _)
  k_with "call type:list" => (k_here; (with_reducible show wpAny _ _ (call (Value.type "list") [Value.bytes _ _]) _ _ _); first
  | (k_dflt (refine' list_bytes1 ?mqk1 ?mqk2 ?mqk3 ?mqk4 ?_; (case mqk1 => k_asm); (case mqk2 => k_asm); (case mqk3 => rfl); (case mqk4 => assumption)); intro _ _ _ _ _ _ _ l1; (try k_lt l1); (try (revert l1; intro _)))
  | (k_dflt (refine' list_bytes2 ?mqk1 ?mqk2 ?mqk3 ?mqk4 ?_; (case mqk1 => k_asm); (case mqk2 => k_asm); (case mqk3 => rfl); (case mqk4 => assumption)); intro _ _ _ _ _ _ _ _ l1; (try k_lt l1); (try (revert l1; intro _))))
  k_with "exec For Name BinOp cons nil" => (k_here; (with_unfolding_all refine' For_invVF ?mqkF ?mqk1 ?mqk2 ?_; (case mqkF => k_asm); (case mqk1 => exact rfl); (case mqk2 => exact rfl); k_whole))
  k_with "mine:env" => ((show (let AA := _; let EE := _; wpAny _ AA (execs _ EE) _ _ _)); intro AA EE)
  k_with "mine:let" => ((rename Fr _ _ _ _ => lF'); refine fr_let lF' ?_; clear lF'; intro _ _)
  k_with "storeName" => (k_here; k_dflt (refine' storeM ?mqF ?mqN ?_ ?mqhk ?mqhx; (case mqF => k_asm); (case mqN => k_asm); (case mqhk => exact rfl); (case mqhx => exact rfl); k_whole); intro _ _ _ _ _; (try k_sweep))
  k_with "mine:turn" => (walk_at "mine:let"; (show wpAny _ _ _ _ _ _); k_fold)
  k_with "mine:led" => (intro p hp; revert p; repeat (first | exact fnil | refine fcons rfl ?_))
  k_with "mine:same" => ((try dsimp (config := { zetaDelta := true }) only); ksw_same)
  k_with "mine:used" => (intro _ _ _ _ _ _ r9; (obtain ⟨_, e9⟩ := r9); subst e9; (try dsimp only); (try k_fold))
  k_with "mine:usedN" => (intro _ _ _ _ _ _ _ _ _ _; (try dsimp only); (try k_fold))
  k_with "mine:forG" => (k_dflt (refine' For_G ?mqkF ?_; (case mqkF => k_asm)))
  k_with "mine:forT" => (k_dflt (refine' For_T ?mqkF ?_; (case mqkF => k_asm)))
  k_with "call type:type" => (k_here; (with_reducible show wpAny _ _ (call _ [Value.bytes _ _]) _ _ _); refine call_type_of (Tx := "bytes") rfl (by decide +kernel) ?_)
  k_with "pyIter bytes" => ((with_reducible show wpAny _ _ (pyIter (Value.bytes _ _)) (fun it s₂ => LoopAtV _ _ _ _ _ _ _ _ _ it s₂) _ _); k_here; k_bytesUnr)
  k_with "subscriptTail" => (k_here; (with_reducible show wpAny _ _ (subscriptTail (Expr.Name "_B64" _) _ (Value.bytes _ _) (Value.int _ _)) _ _ _); with_unfolding_all refine' b64_item ?mqh0 ?mqh1 (fun _ _ _ _ => ?_) ?mqhs ?mqht; (case mqh0 => first | assumption | exact Nat.le_trans (by assumption) (by decide) | omega); (case mqh1 => first | assumption | exact Nat.le_trans (by assumption) (by decide) | omega); (case mqhs => with_unfolding_all rfl); (case mqht => intro _; with_unfolding_all rfl))
  k_with "binaryOp RShift int int" => (k_here; first
  | (refine' rsh2 ?mqhn ?_; (case mqhn => first | assumption | exact Nat.le_trans (by assumption) (by decide) | omega))
  | (refine' rsh4 ?mqhn ?_; (case mqhn => first | assumption | exact Nat.le_trans (by assumption) (by decide) | omega)))
  k_with "binaryOp LShift int int" => (k_here; first
  | (refine' lsh_ 8 256 ?mqhn ?mqhk ?mqhP ?mqh0 ?mqh1 ?_; (case mqhn => decide); (case mqhk => decide); (case mqhP => decide); (case mqh0 => first | assumption | exact Nat.le_trans (by assumption) (by decide) | omega); (case mqh1 => first | assumption | exact Nat.le_trans (by assumption) (by decide) | omega))
  | (refine' lsh_ 6 64 ?mqhn ?mqhk ?mqhP ?mqh0 ?mqh1 ?_; (case mqhn => decide); (case mqhk => decide); (case mqhP => decide); (case mqh0 => first | assumption | exact Nat.le_trans (by assumption) (by decide) | omega); (case mqh1 => first | assumption | exact Nat.le_trans (by assumption) (by decide) | omega))
  | (refine' lsh_ 4 16 ?mqhn ?mqhk ?mqhP ?mqh0 ?mqh1 ?_; (case mqhn => decide); (case mqhk => decide); (case mqhP => decide); (case mqh0 => first | assumption | exact Nat.le_trans (by assumption) (by decide) | omega); (case mqh1 => first | assumption | exact Nat.le_trans (by assumption) (by decide) | omega))
  | (refine' lsh_ 2 4 ?mqhn ?mqhk ?mqhP ?mqh0 ?mqh1 ?_; (case mqhn => decide); (case mqhk => decide); (case mqhP => decide); (case mqh0 => first | assumption | exact Nat.le_trans (by assumption) (by decide) | omega); (case mqh1 => first | assumption | exact Nat.le_trans (by assumption) (by decide) | omega)))
  k_with "binaryOp BitOr int int" => (k_here; first
  | (refine' or_ 8 256 ?mqhP ?mqh0 ?mqh1 ?mqh2 ?_; (case mqhP => decide); (case mqh0 => first | assumption | exact Nat.le_trans (by assumption) (by decide) | omega); (case mqh1 => first | assumption | exact Nat.le_trans (by assumption) (by decide) | omega); (case mqh2 => first | assumption | exact Nat.le_trans (by assumption) (by decide) | omega))
  | (refine' or_ 6 64 ?mqhP ?mqh0 ?mqh1 ?mqh2 ?_; (case mqhP => decide); (case mqh0 => first | assumption | exact Nat.le_trans (by assumption) (by decide) | omega); (case mqh1 => first | assumption | exact Nat.le_trans (by assumption) (by decide) | omega); (case mqh2 => first | assumption | exact Nat.le_trans (by assumption) (by decide) | omega))
  | (refine' or_ 4 16 ?mqhP ?mqh0 ?mqh1 ?mqh2 ?_; (case mqhP => decide); (case mqh0 => first | assumption | exact Nat.le_trans (by assumption) (by decide) | omega); (case mqh1 => first | assumption | exact Nat.le_trans (by assumption) (by decide) | omega); (case mqh2 => first | assumption | exact Nat.le_trans (by assumption) (by decide) | omega))
  | (refine' or_ 2 4 ?mqhP ?mqh0 ?mqh1 ?mqh2 ?_; (case mqhP => decide); (case mqh0 => first | assumption | exact Nat.le_trans (by assumption) (by decide) | omega); (case mqh1 => first | assumption | exact Nat.le_trans (by assumption) (by decide) | omega); (case mqh2 => first | assumption | exact Nat.le_trans (by assumption) (by decide) | omega)))
  k_with "binaryOp BitAnd int int" => (k_here; first
  | refine and65535 ?_
  | refine and63 ?_
  | refine and15 ?_
  | refine and3 ?_)
  k_with "getMethod bytes" => (k_here; (with_reducible refine method_translate ?_))
  k_with "call builtin:bytes.translate" => (k_here; first
  | (refine' call_urlenc ?mqh1 ?mqh2 (fun _ _ => ?_); (case mqh1 => assumption); (case mqh2 => first | kernel_rfl | decide +kernel))
  | (refine' call_urldec ?mqh1 ?mqh2 (fun _ _ => ?_); (case mqh1 => assumption); (case mqh2 => first | kernel_rfl | decide +kernel)))
  k_with "call type:str" => (k_here; (with_reducible show wpAny _ _ (call (Value.type "str") [Value.bytes _ _, Value.str _ _]) _ _ _); first
  | (refine' call_strword0 ?mqh1 (fun _ _ => ?_); (case mqh1 => assumption))
  | (refine' call_strword ?mqh1 (fun _ _ => ?_); (case mqh1 => assumption)))
  k_with "getMethod str" => (k_here; first | with_reducible refine m_encode ?_ | with_reducible refine m_translate ?_)
  k_with "call builtin:str.encode" => (k_here; refine' call_encword ?mqh1 (fun _ _ => ?_); (case mqh1 => assumption))
  k_with "binaryOp Add str str" => (k_here; refine' add_SS ?mqhx ?mqhy ?mqhsz (fun _ _ => ?_); (case mqhx => first | rfl | exact ofS _ | exact S_of _); (case mqhy => first | rfl | exact ofS _ | exact S_of _); (case mqhsz => ((try simp only [List.length_append, List.length_cons, List.length_nil, List.length_replicate]); omega)))
  k_with "binaryOp Mult str int" => (k_here; refine' mul_S ?mqhx ?mqh0 ?mqh1 (fun _ _ => ?_); (case mqhx => exact ofS _); (case mqh0 => first | assumption | exact Nat.le_trans (by assumption) (by decide) | omega); (case mqh1 => first | assumption | exact Nat.le_trans (by assumption) (by decide) | omega))
  k_with "subscriptTail" => (k_here; (with_reducible show wpAny _ _ (subscriptTail _ _ (Value.str _ _) (Value.int _ _)) _ _ _); with_unfolding_all refine' item_S ?mqhx ?mqh0 ?mqh1 ?mqh2 (fun _ _ => ?_) ?mqhs ?mqht; (case mqhx => first | rfl | exact ofS _ | exact S_of _); (case mqh0 => ktr_rel); (case mqh1 => ktr_rel); (case mqh2 => ktr_rel); (case mqhs => with_unfolding_all rfl); (case mqht => intro _; with_unfolding_all rfl))
  k_with "eval Constant int" => (with_reducible refine const_i ?_)
  k_with "binaryOp Add int int" => (with_reducible refine add_i ?_)
  k_with "binaryOp Sub int int" => (with_reducible refine sub_i ?_)
  trivial
set_option maxHeartbeats 8000000
theorem kw_Jx85 : True := by
  k_with "eval ListComp" => (k_here; first
  | ((with_reducible show wpAny _ _ (eval (PySem.Expr.ListComp _ [⟨PySem.Expr.Name _ _, _, [], 0⟩] _ _) _) _ _ _); k_dflt (refine ListComp_G (_F₀ := by k_asm) (by with_unfolding_all rfl) (by decide) (by rfl) (by decide) (by rfl) ?_))
  | ((with_reducible show wpAny _ _ (eval (PySem.Expr.ListComp _ [⟨PySem.Expr.Name _ _, _, [_], 0⟩] _ _) _) _ _ _); k_dflt (refine LCt.ListComp_T (F₀ := by k_asm) (by with_unfolding_all rfl) (by decide) (by rfl) (by decide) (by rfl) ?_)))
  trivial
theorem kw_Jx86 : True := by
  k_with "CompSrcT" => (k_here; k_dflt (refine LCt.CompSrcT.ledger (by rfl) (by k_asm) (by k_asm) (by k_mem) (by assumption) ?_))
  trivial
theorem kw_Jx87 : True := by
  k_with "call builtin:len" => (k_here; k_dflt (refine' len_SL ?mqhl ?mqhi ?mqhz (fun _ _ => ?_); (case mqhl => kmk_list); (case mqhi => assumption); (case mqhz => first | assumption | exact Nat.le_trans (by assumption) (by decide) | omega)))
  trivial
theorem kw_Jx88 : True := by
  k_with "subscriptTail" => (k_here; (with_reducible show wpAny _ _ (subscriptTail _ _ (Value.ref _) (Value.int _ _)) _ _ _); first
  | (k_dflt (refine' item_SL ?mqhl ?mqhi ?mqhz ?mqh0 ?mqh1 (fun t' => ?_) ?mqhs ?mqht; (case mqhl => kmk_list); (case mqhi => assumption); (case mqhz => first | assumption | exact Nat.le_trans (by assumption) (by decide) | omega); (case mqh0 => first | assumption | exact Nat.le_trans (by assumption) (by decide) | omega); (case mqh1 => first | assumption | exact Nat.le_trans (by assumption) (by decide) | omega)); (case mqhs => with_unfolding_all rfl); (case mqht => intro _; with_unfolding_all rfl))
  | ((with_reducible show wpAny _ _ (subscriptTail _ _ (Value.ref _) (Value.int (-1) _)) _ _ _); k_dflt (refine' item_SLn ?mqhl ?mqhi ?mqhz ?mqh1 (fun _ => ?_) ?mqhs ?mqht; (case mqhl => kmk_list); (case mqhi => assumption); (case mqhz => first | assumption | exact Nat.le_trans (by assumption) (by decide) | omega); (case mqh1 => first | assumption | exact Nat.le_trans (by assumption) (by decide) | omega)); (case mqhs => with_unfolding_all rfl); (case mqht => intro _; with_unfolding_all rfl)); (try (revert t'; intro _)))
  trivial
theorem kw_Jx89 : True := by
  k_with "call builtin:str.join" => (k_here; k_dflt (refine' join_S ?mqhx ?mqhl ?mqhi ?mqhs (fun _ _ => ?_); (case mqhx => rfl); (case mqhl => kmk_list); (case mqhi => assumption); (case mqhs => assumption)))
  trivial
theorem kw_Jx90 : True := by
  k_with "call builtin:list.append" => (k_here; (with_reducible show wpAny _ _ (call (Value.builtin _) [Value.ref _, _]) _ _ _); k_dflt (refine' append_K ?mqk1 ?mqk2 ?mqk3 ?_ ?mqz; (case mqk1 => k_asm); (case mqk2 => k_asm); (case mqk3 => k_upd); (case mqz => assumption); k_whole); intro _ _ _)
  trivial
theorem kw_Jx91 : True := by
  k_with "setItem ref int" => (k_here; first
  | ((with_reducible show wpAny _ _ (setItem _ (Value.int (-1) _) _) _ _ _); k_dflt (refine' set_last ?mqk1 ?mqk2 ?mqk3 ?mqz ?_; (case mqk1 => k_asm); (case mqk2 => k_asm); (case mqk3 => k_upd); (case mqz => first | assumption | exact Nat.le_trans (by assumption) (by decide) | omega)); intro h' F' N')
  | (k_dflt (refine' set_nat ?mqk1 ?mqk2 ?mqk3 ?mqz0 ?mqz1 ?mqz ?_; (case mqk1 => k_asm); (case mqk2 => k_asm); (case mqk3 => k_upd); (case mqz0 => first | assumption | exact Nat.le_trans (by assumption) (by decide) | omega); (case mqz1 => first | assumption | exact Nat.le_trans (by assumption) (by decide) | omega); (case mqz => first | assumption | exact Nat.le_trans (by assumption) (by decide) | omega)); intro _ _ _); (try (revert h'; intro _)); (try (revert F'; intro _)); (try (revert N'; intro _)))
  trivial
theorem kw_Jx92 : True := by
  k_with "subscriptTail" => (k_here; (with_reducible show wpAny _ _ (subscriptTail _ _ (Value.str _ _) (Value.int (-1) _)) _ _ _); with_unfolding_all refine' item_Sn ?mqhx ?mqh1 ?mqh2 (fun _ _ => ?_) ?mqhs ?mqht; (case mqhx => first | rfl | exact ofS _ | exact S_of _); (case mqh1 => first | assumption | exact Nat.le_trans (by assumption) (by decide) | omega); (case mqh2 => first | assumption | exact Nat.le_trans (by assumption) (by decide) | omega); (case mqhs => with_unfolding_all rfl); (case mqht => intro _; with_unfolding_all rfl))
  trivial

theorem kw_Jx93 : True := by
  k_with "getAttr ref" => (k_here; k_dflt (refine' bmK ?mqF ?mqN ?mqm ?_; (case mqF => k_asm); (case mqN => k_asm); (case mqm => k_mem)); intro _ _ _ _ _ _)
  trivial
theorem kw_Jx94 : True := by
  k_with "callWith ref" => (k_here; (with_reducible show wpAny _ _ (callWith _ (Value.ref _) _ (backTo _ (starEach (_ :: _) _)) []) _ _ _); k_dflt (refine' callWith_bm ?mqcN ?mqcM ?_; (case mqcN => k_asm); (case mqcM => k_mem); k_whole))
  trivial
theorem kw_Jx95 : True := by
  k_with "And" => ((with_reducible show StandsB _ _ _ ∧ _); k_dflt (refine ⟨standsB (by k_asm) (by k_mem), ?_⟩); (try dsimp only [List.nil_append, List.cons_append]))
  trivial
theorem kw_Jx96 : True := by
  k_with "call ref" => (k_here; k_dflt (refine' boundK ?mqF ?mqN ?mqb ?mqU ?_ ?mqz; (case mqF => k_asm); (case mqN => k_asm); (case mqb => k_mem); (case mqU => k_upd); (case mqz => first | assumption | (simp only [List.size_toArray, List.length_append, List.length_singleton, sizeLine_eq]; omega))); intro _ _ N'; (try simp only [List.push_toArray] at N'); (try (revert N'; intro _)))
  trivial
theorem kw_Jx97 : True := by
  k_with "truthy ref" => (k_here; k_dflt (refine' truthyL ?mqhl ?mqhz ?mqhb (fun _ => ?_); (case mqhl => kmk_list); (case mqhz => first | assumption | exact Nat.le_trans (by assumption) (by decide) | omega); (case mqhb => assumption)))
  trivial
theorem kw_Jx98 : True := by
  k_with "subscriptTail" => (k_here; (with_reducible show wpAny _ _ (subscriptTail _ _ (Value.ref _) (Value.int (-1) _)) _ _ _); k_dflt (refine' item_lastAt ?mqhl ?mqhv ?_ ?mqhs ?mqht; (case mqhl => kmk_list); (case mqhv => assumption)); (case mqhs => with_unfolding_all rfl); (case mqht => intro _; with_unfolding_all rfl))
  trivial
theorem kw_Jx99 : True := by
  k_with "compareOp IsNot" => (k_here; first
  | (with_reducible refine isnot_none_none ?_) | (with_reducible refine isnot_str_none ?_) | (with_reducible refine wpAny_isNot_ref_self ?_) | (refine wpAny_isNot_other (by rfl) (by intro x; cases x) ?_); (try (revert x; intro _)))
  trivial

theorem kw_Jx100 : True := by
  k_with "call builtin:str.split" => (k_here; k_dflt (refine' splitS ?mqk1 ?mqk2 ?mqhx ?mqhs ?_; (case mqk1 => k_asm); (case mqk2 => k_asm); (case mqhx => rfl); (case mqhs => first | assumption | exact Nat.le_trans (by assumption) (by decide) | omega)); intro _ _ _ _ _ _ _ _)
  trivial
theorem kw_Jx101 : True := by
  k_with "call type:map" => (k_here; k_dflt (refine' mapK ?mqk1 ?mqk2 ?mqhl ?_; (case mqk1 => k_asm); (case mqk2 => k_asm); (case mqhl => kmk_list)); intro _ _ _ _ _ _ _ _ _ _)
  trivial
theorem kw_Jx102 : True := by
  k_with "formatField str" => (k_here; (with_reducible show wpAny _ _ (formatField (Value.str (S _) _) _) _ _ _); k_dflt (refine' formatField_str (fun _ _ => ?_) ?mqhz; (case mqhz => (rw [S_len, sizeLine_eq]; omega))))
  trivial
theorem kw_Jx103 : True := by
  k_with "le" => (k_here; (with_reducible show PySem.Str.length _ ≤ _); (simp only [strLen_append, ofS, S_len, emp_len, sizeLine_eq]); omega)
  trivial
theorem kw_Jx104 : True := by
  k_with "joinParts" => (k_here; (first | (with_reducible show wpAny _ _ (joinParts _ []) _ _ _) | (with_reducible show wpAny _ _ (joinParts _ (evalEach [] _)) _ _ _)); k_dflt (refine joinParts_nil ?_ (by ((simp only [strLen_append, ofS, S_len, emp_len, sizeLine_eq]); omega))))
  trivial

theorem kw_Jx105 : True := by
  k_with "exec While Compare cons nil" => (k_here; refine halt ?_)
  trivial
theorem kw_Jx106 : True := by
  k_with "exec While BoolOp cons nil" => (k_here; refine halt ?_)
  trivial
theorem kw_Jx107 : True := by
  k_with "exec While" => (k_here; refine halt ?_)
  trivial
theorem kw_Jx108 : True := by
  k_with "KswEnd" => (refine halt ?_)
  trivial
theorem kw_Jx109 : True := by
  k_with "compareOp Eq int int" => (k_here; first | (refine' eqi_t ?mqh ?_; (case mqh => assumption)) | (refine' eqi_f ?mqh ?_; (case mqh => assumption)))
  trivial
theorem len_PL {prog : Program} {w : World} {A : Around} {E : Value → Shared → Prop} {s : Shared} {D : Addr} {vs : List Value} {n : Nat} {Q : Value → Shared → Prop} (hl : s.heap.IsList D vs.toArray) (hn : vs.length = n) (hz : n ≤ 100000) (h : ∀ t k, Q (.int (n : Int) t) { s with toks := k }) : wpAny (model prog w) A (call (.builtin "len") [.ref D]) Q E s := by
  refine len_list hl (by simp; omega) ?_
  rw [show ((vs.toArray.size : Nat) : Int) = (n : Int) by simp [hn]]
  exact h _ _
theorem kw_Jx110 : True := by
  k_with "call builtin:len" => (k_here; k_dflt (refine' len_PL ?mqhl ?mqhi ?mqhz (fun _ _ => ?_); (case mqhl => kmk_list); (case mqhi => assumption); (case mqhz => first | assumption | exact Nat.le_trans (by assumption) (by decide) | omega)))
  trivial
theorem test_is {M : Model} {A : Around} {E : Value → Shared → Prop} {s : Shared} {m : Sem Bool} {P : Bool → Shared → Prop} (b : Bool) (h : wpAny M A m (fun c s₂ => c = b ∧ ∃ tk', s₂ = { s with toks := tk' }) E s) (k : ∀ tk', P b { s with toks := tk' }) : wpAny M A m P E s :=
  wpAny_mono h (fun c s₂ hc => by obtain ⟨e1, tk', e2⟩ := hc; subst e1; subst e2; exact k tk') fun _ _ e => e
theorem drop_at {α : Type} {l : List α} {k : Nat} {a : α} (h : l[k]? = some a) : l.drop k = a :: l.drop (k + 1) := by
  obtain ⟨hk, e⟩ := List.getElem?_eq_some_iff.mp h
  rw [List.drop_eq_getElem_cons hk, e]
theorem item_PsAt {prog : Program} {w : World} {A : Around} {E : Value → Shared → Prop} {s : Shared} {D : Addr} {vs : List Value} {v : Value} {k : Int} {Q : Value → Shared → Prop} {value slice : PySem.Expr} {u : Tok} (hl : s.heap.IsList D vs.toArray) (h0 : 0 ≤ k) (h1 : k ≤ 100000) (hv : vs[k.toNat]? = some v) (h : Q v s)
    (hs : subscripted slice false (.ref D) (.int k u) = operate [.ref D, .int k u] (getItem (.ref D) (.int k u)) := by with_unfolding_all rfl) (hg : ∀ r, letTemporaryGo value (.ref D) r = pure () := by intro _; with_unfolding_all rfl) :
    wpAny (model prog w) A (subscriptTail value slice (.ref D) (.int k u)) Q E s := item_listL hl h0 (by omega) hv h hs hg
theorem kw_Jx111 : True := by
  k_with "subscriptTail" => (k_here; (with_reducible show wpAny _ _ (subscriptTail _ _ (Value.ref _) (Value.int _ _)) _ _ _); k_dflt (refine' item_PsAt ?mqhl ?mqh0 ?mqh1 ?mqhv ?_ ?mqhs ?mqht; (case mqhl => kmk_list); (case mqh0 => first | assumption | exact Nat.le_trans (by assumption) (by decide) | omega); (case mqh1 => first | assumption | exact Nat.le_trans (by assumption) (by decide) | omega); (case mqhv => assumption)); (case mqhs => with_unfolding_all rfl); (case mqht => intro _; with_unfolding_all rfl))
  trivial
theorem kw_Jx112 : True := by
  k_with "compareOp Is" => (k_here; (with_reducible refine wpAny_is_ref_self ?_))
  trivial
theorem kw_Jx113 : True := by
  k_with "compareOp Is ref ref" => (k_here; (with_reducible refine wpAny_is_ref_self ?_))
  trivial
theorem kw_Jx114 : True := by
  k_with "call builtin:str.join" => (k_here; k_dflt (refine' join_S ?mqhx ?mqhl ?mqhi ?mqhs (fun _ _ => ?_); (case mqhx => rfl); (case mqhl => kmk_list); (case mqhi => ((try simp only [ofS]); first | assumption | exact strs_snoc (by assumption) | exact strs_snoc (strs_snoc (by assumption)))); (case mqhs => ((try simp only [List.map_append, List.sum_append, List.map_cons, List.map_nil, List.sum_cons, List.sum_nil]); omega))))
  trivial
theorem jn_sz {rs : List Value} {l p : Nat} {k : Int} (e : rs.length = l) (a : l ≤ 2 * k.toNat) (b : k ≤ (p : Int)) (c : p ≤ 1000) : rs.toArray.size ≤ sizeLine := by
  rw [sizeLine_eq, List.size_toArray, e]
  exact Nat.le_trans a (Nat.le_trans (Nat.mul_le_mul_left 2 (Nat.le_trans (Int.toNat_le.mpr b) c)) (by decide))
theorem jn_sz1 {rs : List Value} {l p : Nat} {k : Int} (e : rs.length = l) (a : l ≤ k.toNat) (b : k ≤ (p : Int)) (c : p ≤ 1000) : rs.toArray.size ≤ sizeLine := by
  rw [sizeLine_eq, List.size_toArray, e]
  exact Nat.le_trans a (Nat.le_trans (Int.toNat_le.mpr b) (Nat.le_trans c (by decide)))
theorem jn_nx {v p : Nat} {k : Int} (e : v = p) (h0 : 0 ≤ k) (h : k < (p : Int)) (hn : ¬ k + 1 = (p : Int)) : (k + 1).toNat < v :=
  e ▸ tn_lt (Int.le_trans h0 (Int.le_add_one (Int.le_refl k))) (Int.lt_iff_le_and_ne.mpr ⟨h, hn⟩)
theorem jn_gs {s p : Nat} {j k : Int} (h0 : 0 ≤ k) (a : s ≤ 10 * (j - k).toNat) (b : j ≤ (p : Int)) (c : p ≤ 1000) : s ≤ 1000000 := by omega
theorem jz_end {p : Nat} {j : Int} (e : j = (p : Int)) : p ≤ j.toNat := by rw [e]; exact Nat.le_refl _
theorem jn_l2 {a x : Nat} {j k : Int} (h0 : 0 ≤ k) (h : a ≤ 2 * k.toNat) (hj : k + 1 ≤ j) (hx : x ≤ 2) : a + x ≤ 2 * j.toNat := by omega
theorem jn_s2 {a x y z : Nat} {j k : Int} (h0 : 0 ≤ k) (h : a ≤ 20 * k.toNat) (hj : k + 1 ≤ j) (hg : z ≤ 10 * (j - k).toNat) (hx : x = 2) (hy : y = z) : a + (x + 0) + (y + 0) ≤ 20 * j.toNat := by omega
theorem jn_s3 {a x y z : Nat} {j k : Int} (h0 : 0 ≤ k) (h : a ≤ 20 * k.toNat) (hj : k + 1 ≤ j) (hg : z ≤ 10 * (j - k).toNat) (hx : x = y + 7) (hy : y = z) : a + (x + 0) ≤ 20 * j.toNat := by omega
theorem f_fin (a : List Nat) : PySem.Str.empty ++ PySem.Str.ofString "(?s:" ++ S a ++ PySem.Str.ofString ")\\Z" = S (lit "(?s:" ++ a ++ lit ")\\Z") := by
  rw [show PySem.Str.empty = S [] from rfl, ofS, ofS, S_app, S_app, S_app]; rfl
theorem c_join (w : World) (a D : Addr) (vs : List Value) (ps : List (Option (List Nat))) (hi : PsAre (.ref a) vs ps) (h1 : ∀ p, some p ∈ ps → p.length ≤ 10) (h2 : ps.length ≤ 1000) (h3 : ∀ i : Nat, ps[i]? = some none → ps[i + 1]? ≠ some none) :
    Spec w 6 178 [.ref D, .ref a] [] (fun h => h.IsList D vs.toArray) (fun _ _ v => ∃ t, v = .str (S (lit "(?s:" ++ fin1 ps ++ lit ")\\Z")) t) := by
  have hvl := ps_len hi
  have l1 : (lit ".*").length = 2 := by decide +kernel
  have l2 : (lit "(?>.*?").length = 6 := by decide +kernel
  have l3 : (lit ")").length = 1 := by decide +kernel
  have l4 : (lit "(?s:").length = 4 := by decide +kernel
  have l5 : (lit ")\\Z").length = 3 := by decide +kernel
  unfold Spec
  k_fill
  intros; rename_i hpre hret
  refine wpAny_call ?_
  k_dflt cell_enter
  rename _ = Shared.heap _ => hgg
  rw [← hgg] at hpre
  k_steps
  rename_i T hA lA hB tkA mA b hC tkB lb hD tkC mC t1 k1 D9 hE lD hF hG tkD mD hH tkE mE F2 N2
  show wpAny _ _ _ _ _ _
  k_fold
  have hbT : b ≠ T := Ne.symm (Nat.ne_of_lt (lb _ (.head _)))
  have hTb : T ≠ b := Ne.symm hbT
  refine ksw_whileL (σ := Int × Tok × List Value × Nat × Tok) (fun c => [(b, bmObj T), (T, W.listOf c.2.2.1.toArray c.2.2.2.1)]) (fun c => [(Str.ofString "i", .int c.1 c.2.1), (Str.ofString "n", .int (ps.length : Int) c.2.2.2.2), (Str.ofString "inp", .ref D), (Str.ofString "STAR", .ref a), (Str.ofString "res", .ref T), (Str.ofString "add", .ref b)])
    (fun c => ∃ ls : List (List Nat), StrsAre c.2.2.1 (ls.map S) ∧ ls.flatten ++ fin1 (ps.drop c.1.toNat) = fin1 ps ∧ 0 ≤ c.1 ∧ c.1 ≤ (ps.length : Int) ∧ ls.length ≤ 2 * c.1.toNat ∧ (ls.map List.length).sum ≤ 20 * c.1.toNat) [] (fun _ => True) (fun c => ps.length - c.1.toNat) (0, _, [], 0, _)
    F2 (fun p hp => N2 p (.tail _ hp)) ⟨[], .nil, rfl, Int.le_refl _, Int.natCast_nonneg _, Nat.zero_le _, Nat.zero_le _⟩ (by walk_at "mine:led") trivial ?_ (by passes_own)
  rintro ⟨k, tk9, rs, n, tn⟩ u h tk ⟨ls, hls, hfl, hk0, hk1, hlen, hsum⟩ _ F N
  intro QQ
  dsimp only at hls hfl hk0 hk1 hlen hsum
  dsimp only [kstB] at F N ⊢
  walk_at "mine:let"
  rename Fr _ _ _ _ => F
  have hrl := strs_len hls
  have hrz : rs.toArray.size ≤ sizeLine := jn_sz hrl hlen hk1 h2
  by_cases hgo : ∃ p, ps[k.toNat]? = some (some p)
  · obtain ⟨p, hp⟩ := hgo
    have hlt : k < (ps.length : Int) := tn_of hk0 (List.getElem?_eq_some_iff.mp hp).1
    obtain ⟨t8, hv⟩ : ∃ t, vs[k.toNat]? = some (.str (S p) t) := by
      have hk : k.toNat < vs.length := tn_ltv hvl hk0 hlt
      rcases ps_get hi k.toNat vs[k.toNat] (List.getElem?_eq_getElem hk) with ⟨e, _⟩ | ⟨q, t, e, ev⟩
      · rw [hp] at e; cases e
      · rw [hp] at e; cases e; exact ⟨t, by rw [List.getElem?_eq_getElem hk, ev]⟩
    have hpl := h1 p (List.mem_of_getElem? hp)
    k_steps
    show KswEnd _ _ _ _ _ _ _ _ _ _ _ _
    walk_at "mine:zeta"
    rename News _ _ _ _ => nE
    refine ksw_end (k + 1, _, _, _, _) (by k_asm) nE (by kst_in) ⟨ls ++ [p], strs_snoc hls, ?_, Int.le_add_one hk0, hlt, ?_, ?_⟩ (by kst_all) (by walk_at "mine:same") trivial (dec1 hk0 hlt)
    · dsimp only
      rw [← hfl, drop_at hp, tn1 hk0]
      simp [fin1]
    · dsimp only
      simp only [List.length_append, List.length_singleton]; exact addc hk0 hlen (by decide)
    · dsimp only
      simp only [List.map_append, List.sum_append, List.map_cons, List.map_nil, List.sum_cons, List.sum_nil]; exact addc hk0 hsum (Nat.le_trans hpl (by decide))
  · refine test_is false ?_ (fun tk' => ?_)
    · by_cases hlt : k < (ps.length : Int)
      · have hv : vs[k.toNat]? = some (.ref a) := by
          have hk : k.toNat < vs.length := tn_ltv hvl hk0 hlt
          rcases ps_get hi k.toNat vs[k.toNat] (List.getElem?_eq_getElem hk) with ⟨_, e⟩ | ⟨q, t, e, ev⟩
          · rw [List.getElem?_eq_getElem hk, e]
          · exact absurd ⟨q, e⟩ hgo
        k_steps
      · k_steps
    · simp only [Bool.false_eq_true, if_false]
      k_steps
      have hstar : k < (ps.length : Int) → ps[k.toNat]? = some none := fun hlt => by
        have hk : k.toNat < ps.length := tn_lt hk0 hlt
        cases e : ps[k.toNat] with
        | none => rw [List.getElem?_eq_getElem hk, e]
        | some p => exact absurd ⟨p, by rw [List.getElem?_eq_getElem hk, e]⟩ hgo
      clear hgo
      show wpAny _ _ _ _ _ _
      (try k_fold)
      refine ksw_whileL (σ := Int × Tok × List Value × Nat) (fun c => [(b, bmObj T), (T, W.listOf c.2.2.1.toArray c.2.2.2)]) (fun c => [(Str.ofString "i", .int c.1 c.2.1), (Str.ofString "n", .int (ps.length : Int) tn), (Str.ofString "inp", .ref D), (Str.ofString "STAR", .ref a), (Str.ofString "res", .ref T), (Str.ofString "add", .ref b)])
        (fun c => ∃ ls : List (List Nat), StrsAre c.2.2.1 (ls.map S) ∧ ls.flatten ++ fin1 (ps.drop c.1.toNat) = fin1 ps ∧ 0 ≤ c.1 ∧ c.1 ≤ (ps.length : Int) ∧ (c.1 < (ps.length : Int) → ps[c.1.toNat]? = some none) ∧ ls.length ≤ 2 * c.1.toNat ∧ (ls.map List.length).sum ≤ 20 * c.1.toNat) [Str.ofString "fixed"] (fun _ => True) (fun c => ps.length - c.1.toNat) (k, tk9, rs, n)
        F N ⟨ls, hls, hfl, hk0, hk1, hstar, hlen, hsum⟩ (by walk_at "mine:led") trivial ?_ (by passes_own)
      clear hls hfl hk0 hk1 hstar hlen hsum hrl hrz N F
      rintro ⟨k, tk9, rs, n⟩ u h tk ⟨ls, hls, hfl, hk0, hk1, hstar, hlen, hsum⟩ _ F N
      intro QQ
      dsimp only at hls hfl hk0 hk1 hlen hsum hstar
      dsimp only [kstB] at F N ⊢
      walk_at "mine:let"
      rename Fr _ _ _ _ => F
      have hrl := strs_len hls
      have hrz : rs.toArray.size ≤ sizeLine := jn_sz hrl hlen hk1 h2
      by_cases hlt : k < (ps.length : Int)
      · have hp := hstar hlt
        have hv : vs[k.toNat]? = some (.ref a) := by
          have hk : k.toNat < vs.length := tn_ltv hvl hk0 hlt
          rcases ps_get hi k.toNat vs[k.toNat] (List.getElem?_eq_getElem hk) with ⟨_, e⟩ | ⟨q, t, e, ev⟩
          · rw [List.getElem?_eq_getElem hk, e]
          · rw [hp] at e; cases e
        by_cases hend : k + 1 = (ps.length : Int)
        · have hf0 := flat_len ls
          have hf1 : (ls ++ [lit ".*"]).flatten.length = ls.flatten.length + 2 := by simp [l1]
          k_steps
          rw [f_fin]
          have hfin : (ls ++ [lit ".*"]).flatten = fin1 ps := by
            rw [← hfl, drop_at hp, List.drop_eq_nil_of_le (by omega)]
            simp [fin1, fin2]
          rw [hfin]
          exact hret _ _ _ (by rw [← hgg]; assumption) ⟨_, rfl⟩
        · have hk2 : (k + 1).toNat < vs.length := jn_nx hvl hk0 hlt hend
          have hk3 : (k + 1).toNat = k.toNat + 1 := tn1 hk0
          obtain ⟨q, t8, hq, hv2⟩ : ∃ q t, ps[(k + 1).toNat]? = some (some q) ∧ vs[(k + 1).toNat]? = some (.str (S q) t) := by
            rcases ps_get hi (k + 1).toNat vs[(k + 1).toNat] (List.getElem?_eq_getElem hk2) with ⟨e, _⟩ | ⟨q, t, e, ev⟩
            · rw [hk3] at e; exact absurd e (h3 _ hp)
            · exact ⟨q, t, e, by rw [List.getElem?_eq_getElem hk2, ev]⟩
          k_steps
          rename_i Fx z3 lx z4 z5 z6 F5 N5
          show wpAny _ _ _ _ _ _
          have hFb : Fx ≠ b := Nat.ne_of_gt lx.1
          have hbF : b ≠ Fx := Ne.symm hFb
          have hFT : Fx ≠ T := Nat.ne_of_gt lx.2
          have hTF : T ≠ Fx := Ne.symm hFT
          (try k_fold)
          refine ksw_whileL (σ := Int × Tok × List Value × Nat) (fun c => [(Fx, W.listOf c.2.2.1.toArray c.2.2.2), (b, bmObj T), (T, W.listOf rs.toArray n)]) (fun c => [(Str.ofString "i", .int c.1 c.2.1), (Str.ofString "n", .int (ps.length : Int) tn), (Str.ofString "inp", .ref D), (Str.ofString "STAR", .ref a), (Str.ofString "res", .ref T), (Str.ofString "add", .ref b), (Str.ofString "fixed", .ref Fx)])
            (fun c => ∃ fs : List (List Nat), StrsAre c.2.2.1 (fs.map S) ∧ fin2 (ps.drop (k + 1).toNat) [] = fin2 (ps.drop c.1.toNat) fs.flatten ∧ k + 1 ≤ c.1 ∧ c.1 ≤ (ps.length : Int) ∧ fs.length ≤ c.1.toNat ∧ (fs.map List.length).sum ≤ 10 * (c.1 - k).toNat) [] (fun _ => True) (fun c => ps.length - c.1.toNat) (k + 1, _, [], 0)
            F5 N5 ⟨[], .nil, rfl, Int.le_refl _, hlt, Nat.zero_le _, Nat.zero_le _⟩ (by walk_at "mine:led") trivial ?_ (by passes_own)
          rintro ⟨j, tk8, gs, n8⟩ u8 h8 tk7 ⟨fs, hgs, hf2, hj0, hj1, hglen, hgsum⟩ _ F N
          intro QQ
          dsimp only at hgs hf2 hj0 hj1 hglen hgsum
          dsimp only [kstB] at F N ⊢
          walk_at "mine:let"
          rename Fr _ _ _ _ => F
          have hgl := strs_len hgs
          have hgz : gs.toArray.size ≤ sizeLine := jn_sz1 hgl hglen hj1 h2
          by_cases hgo : ∃ p, ps[j.toNat]? = some (some p)
          · obtain ⟨p, hp9⟩ := hgo
            have hlt9 : j < (ps.length : Int) := tn_of (ge0 hk0 hj0) (List.getElem?_eq_some_iff.mp hp9).1
            obtain ⟨t8, hv9⟩ : ∃ t, vs[j.toNat]? = some (.str (S p) t) := by
              have hk : j.toNat < vs.length := tn_ltv hvl (ge0 hk0 hj0) hlt9
              rcases ps_get hi j.toNat vs[j.toNat] (List.getElem?_eq_getElem hk) with ⟨e, _⟩ | ⟨q, t, e, ev⟩
              · rw [hp9] at e; cases e
              · rw [hp9] at e; cases e; exact ⟨t, by rw [List.getElem?_eq_getElem hk, ev]⟩
            have hpl := h1 p (List.mem_of_getElem? hp9)
            k_steps
            show KswEnd _ _ _ _ _ _ _ _ _ _ _ _
            walk_at "mine:zeta"
            rename News _ _ _ _ => nE
            (try simp only [List.push_toArray] at nE)
            refine ksw_end (j + 1, _, _, _) (by k_asm) nE (by kst_in) ⟨fs ++ [p], strs_snoc hgs, ?_, ?_, hlt9, ?_, ?_⟩ (by kst_all) (by walk_at "mine:same") trivial (dec1 (ge0 hk0 hj0) hlt9)
            · dsimp only
              rw [hf2, drop_at hp9, tn1 (ge0 hk0 hj0)]
              simp [fin2]
            · exact Int.le_trans hj0 (Int.le_add_one (Int.le_refl _))
            · dsimp only
              simp only [List.length_append, List.length_singleton]; exact Nat.le_trans (Nat.succ_le_succ hglen) (Nat.le_of_eq (tn1 (ge0 hk0 hj0)).symm)
            · dsimp only
              simp only [List.map_append, List.sum_append, List.map_cons, List.map_nil, List.sum_cons, List.sum_nil]; exact addd hj0 hgsum hpl
          · refine test_is false ?_ (fun tk' => ?_)
            · by_cases hlt9 : j < (ps.length : Int)
              · have hv9 : vs[j.toNat]? = some (.ref a) := by
                  have hk : j.toNat < vs.length := tn_ltv hvl (ge0 hk0 hj0) hlt9
                  rcases ps_get hi j.toNat vs[j.toNat] (List.getElem?_eq_getElem hk) with ⟨_, e⟩ | ⟨q, t, e, ev⟩
                  · rw [List.getElem?_eq_getElem hk, e]
                  · exact absurd ⟨q, e⟩ hgo
                k_steps
              · k_steps
            · simp only [Bool.false_eq_true, if_false]
              have hg0 := flat_len fs
              have hA9 : fin1 (none :: ps.drop (k.toNat + 1)) = fin2 (ps.drop (k + 1).toNat) [] := by rw [hk3]; rfl
              have hgsz : (fs.map List.length).sum ≤ 1000000 := jn_gs hk0 hgsum hj1 h2
              by_cases hend9 : j = (ps.length : Int)
              · have hf7 := flat_len ls
                have hj9 : ps.drop j.toNat = [] := List.drop_eq_nil_of_le (jz_end hend9)
                k_steps
                show KswEnd _ _ _ _ _ _ _ _ _ _ _ _
                walk_at "mine:zeta"
                rename News _ _ _ _ => nE
                (try simp only [List.push_toArray] at nE)
                refine ksw_end (j, _, _, _) (by k_asm) nE (by kst_in) ⟨ls ++ [lit ".*"] ++ [fs.flatten], strs_snoc (strs_snoc hls), ?_, ge0 hk0 hj0, hj1, fun h => absurd hend9 (Int.ne_of_lt h), ?_, ?_⟩ (by kst_all) (by walk_at "mine:same") trivial (dec2 hk0 hj0 hj1)
                · dsimp only
                  rw [hj9, ← hfl, drop_at hp, hA9, hf2, hj9]
                  simp [fin1, fin2]
                · dsimp only
                  simp only [List.length_append, List.length_singleton]; exact jn_l2 (a := ls.length) (x := 2) hk0 hlen hj0 (by decide)
                · dsimp only
                  simp only [List.map_append, List.sum_append, List.map_cons, List.map_nil, List.sum_cons, List.sum_nil]; exact jn_s2 hk0 hsum hj0 hgsum l1 hg0
              · have hp9 : ps[j.toNat]? = some none := by
                  have hk : j.toNat < ps.length := tn_lt (ge0 hk0 hj0) (Int.lt_iff_le_and_ne.mpr ⟨hj1, hend9⟩)
                  cases e : ps[j.toNat] with
                  | none => rw [List.getElem?_eq_getElem hk, e]
                  | some p => exact absurd ⟨p, by rw [List.getElem?_eq_getElem hk, e]⟩ hgo
                have hwl := wrap_len fs.flatten
                k_steps
                show KswEnd _ _ _ _ _ _ _ _ _ _ _ _
                walk_at "mine:zeta"
                rename News _ _ _ _ => nE
                (try simp only [List.push_toArray] at nE)
                rw [f_wrap] at nE
                refine ksw_end (j, _, _, _) (by k_asm) nE (by kst_in) ⟨ls ++ [wrap fs.flatten], strs_snoc hls, ?_, ge0 hk0 hj0, hj1, fun _ => hp9, ?_, ?_⟩ (by kst_all) (by walk_at "mine:same") trivial (dec2 hk0 hj0 hj1)
                · dsimp only
                  rw [← hfl, drop_at hp, hA9, hf2, drop_at hp9]
                  simp [fin1, fin2]
                · dsimp only
                  simp only [List.length_append, List.length_singleton]; exact jn_l2 hk0 hlen hj0 (by decide)
                · dsimp only
                  simp only [List.map_append, List.sum_append, List.map_cons, List.map_nil, List.sum_cons, List.sum_nil]; exact jn_s3 hk0 hsum hj0 hgsum hwl hg0
      · have hkl : k = (ps.length : Int) := Int.le_antisymm hk1 (Int.not_lt.mp hlt)
        have hf0 := flat_len ls
        k_steps
        rw [f_fin]
        have hfin : ls.flatten = fin1 ps := by
          rw [← hfl, List.drop_eq_nil_of_le (by omega)]
          simp [fin1]
        rw [hfin]
        exact hret _ _ _ (by rw [← hgg]; assumption) ⟨_, rfl⟩
end
section
open PySem PySem.W PySem.Calls PyProof.Rows
set_option maxRecDepth 100000
set_option maxHeartbeats 8000000
/-! what _translate and _join_translated_parts make of a text, sign by sign -/
noncomputable def stC (s : List Nat × Option (List Nat)) (c : Nat) : List Nat × Option (List Nat) :=
  if c = 42 then match s.2 with
    | none => (s.1, some [])
    | some [] => (s.1, some [])
    | some (x :: r) => (s.1 ++ wrap (x :: r), some [])
  else match s.2 with
    | none => (s.1 ++ esc [c], none)
    | some cur => (s.1, some (cur ++ esc [c]))
noncomputable def contF (s : List Nat × Option (List Nat)) (r : List (Option (List Nat))) : List Nat := match s.2 with
  | none => s.1 ++ fin1 r
  | some cur => s.1 ++ fin2 r cur
theorem esc_one (c : Nat) : esc [c] = esc1 c := by simp [esc]
theorem esc1_ne (c : Nat) : esc1 c ≠ [] := by unfold esc1; split <;> simp
theorem esc_one_ne (c : Nat) : esc [c] ≠ [] := by rw [esc_one]; exact esc1_ne c
theorem esc_nil : esc [] = [] := rfl
theorem esc_cons (c : Nat) (r : List Nat) : esc (c :: r) = esc [c] ++ esc r := by simp [esc]
theorem esc_ne {p : List Nat} (h : p ≠ []) : esc p ≠ [] := by
  cases p with
  | nil => exact absurd rfl h
  | cons c r =>
    rw [esc_cons]
    intro e
    exact esc_one_ne c (List.append_eq_nil_iff.mp e).1
noncomputable def lastStar (ps : List (Option (List Nat))) : Prop := ps ≠ [] ∧ ps.getD (ps.length - 1) none = none
theorem lastStar_snoc (ps : List (Option (List Nat))) (q : Option (List Nat)) : lastStar (ps ++ [q]) ↔ q = none := by
  unfold lastStar
  have h : (ps ++ [q]).getD ((ps ++ [q]).length - 1) none = q := by simp [List.getD]
  rw [h]
  simp
noncomputable def Rel (ps : List (Option (List Nat))) (s : List Nat × Option (List Nat)) : Prop := (∀ r, fin1 (ps ++ r) = contF s r) ∧ (lastStar ps ↔ s.2 = some [])
theorem tr1_star {ps : List (Option (List Nat))} (h : ¬ lastStar ps) : tr1 ps 42 = ps ++ [none] := by
  unfold tr1
  rw [if_pos rfl, if_pos]
  by_cases h1 : ps = []
  · exact .inl h1
  · exact .inr fun e => h ⟨h1, e⟩
theorem tr1_stay {ps : List (Option (List Nat))} (h : lastStar ps) : tr1 ps 42 = ps := by
  unfold tr1
  rw [if_pos rfl, if_neg]
  rintro (h1 | h1)
  · exact h.1 h1
  · exact h1 h.2
theorem tr1_sign {ps : List (Option (List Nat))} {c : Nat} (h : c ≠ 42) : tr1 ps c = ps ++ [some (esc [c])] := by
  unfold tr1
  rw [if_neg h]
theorem rel_step {ps : List (Option (List Nat))} {s : List Nat × Option (List Nat)} (c : Nat) (h : Rel ps s) : Rel (tr1 ps c) (stC s c) := by
  obtain ⟨h1, h2⟩ := h
  obtain ⟨res, m⟩ := s
  by_cases hc : c = 42
  · subst hc
    by_cases hl : lastStar ps
    · have hm : m = some [] := h2.mp hl
      subst hm
      rw [tr1_stay hl]
      exact ⟨h1, h2⟩
    · rw [tr1_star hl]
      have hm : m ≠ some [] := fun e => hl (h2.mpr e)
      refine ⟨fun r => ?_, ?_⟩
      · rw [List.append_assoc, List.singleton_append, h1]
        match m, hm with
        | none, _ => simp [stC, contF, fin1]
        | some [], hm => exact absurd rfl hm
        | some (x :: t), _ => simp [stC, contF, fin2]
      · rw [lastStar_snoc]
        match m, hm with
        | none, _ => simp [stC]
        | some [], hm => exact absurd rfl hm
        | some (x :: t), _ => simp [stC]
  · rw [tr1_sign hc]
    refine ⟨fun r => ?_, ?_⟩
    · rw [List.append_assoc, List.singleton_append, h1]
      cases m with
      | none => simp [stC, contF, fin1, hc]
      | some cur => simp [stC, contF, fin2, hc]
    · rw [lastStar_snoc]
      cases m with
      | none => simp [stC, hc]
      | some cur => simp [stC, hc, esc_one_ne c]
theorem rel_run : ∀ (l : List Nat) {ps : List (Option (List Nat))} {s : List Nat × Option (List Nat)}, Rel ps s → Rel (l.foldl tr1 ps) (l.foldl stC s)
  | [], _, _, h => h
  | c :: r, _, _, h => rel_run r (rel_step c h)
theorem rel_trl (l : List Nat) : Rel (trl l) (l.foldl stC ([], none)) := rel_run l ⟨fun r => by simp [contF], by simp [lastStar]⟩
theorem fin1_trl (l : List Nat) : fin1 (trl l) = contF (l.foldl stC ([], none)) [] := by
  have := (rel_trl l).1 []
  rwa [List.append_nil] at this
theorem run_none {a : List Nat} (h : 42 ∉ a) (res : List Nat) : a.foldl stC (res, none) = (res ++ esc a, none) := by
  induction a generalizing res with
  | nil => simp [esc_nil]
  | cons c r ih =>
    have hc : c ≠ 42 := fun e => h (e ▸ .head _)
    have hr : 42 ∉ r := fun e => h (.tail _ e)
    rw [List.foldl_cons, show stC (res, none) c = (res ++ esc [c], none) by simp [stC, hc], ih hr, esc_cons c r]
    simp
theorem run_some {a : List Nat} (h : 42 ∉ a) (res cur : List Nat) : a.foldl stC (res, some cur) = (res, some (cur ++ esc a)) := by
  induction a generalizing cur with
  | nil => simp [esc_nil]
  | cons c r ih =>
    have hc : c ≠ 42 := fun e => h (e ▸ .head _)
    have hr : 42 ∉ r := fun e => h (.tail _ e)
    rw [List.foldl_cons, show stC (res, some cur) c = (res, some (cur ++ esc [c])) by simp [stC, hc], ih hr, esc_cons c r]
    simp
noncomputable def wr (ms : List (List Nat)) : List Nat := ((ms.filter (fun p => p != [])).map fun p => wrap (esc p)).flatten
theorem wr_cons (p : List Nat) (ms : List (List Nat)) : wr (p :: ms) = (if p = [] then [] else wrap (esc p)) ++ wr ms := by
  unfold wr
  by_cases h : p = []
  · subst h; simp
  · simp [h]
theorem run_star (res p : List Nat) : stC (res, some (esc p)) 42 = (res ++ (if p = [] then [] else wrap (esc p)), some []) := by
  by_cases h : p = []
  · subst h; simp [stC, esc_nil]
  · have h1 := esc_ne h
    cases e : esc p with
    | nil => exact absurd e h1
    | cons x r => simp [stC, h]
theorem jn_cons {X : List (List Nat)} (h : X ≠ []) (a : List Nat) : jn (a :: X) = a ++ 42 :: jn X := by
  cases X with
  | nil => exact absurd rfl h
  | cons b r => rfl
theorem run_mid : ∀ (ms : List (List Nat)) (p z res : List Nat), (∀ m ∈ ms, 42 ∉ m) → 42 ∉ z →
    (42 :: jn (ms ++ [z])).foldl stC (res, some (esc p)) = (res ++ wr (p :: ms), some (esc z))
  | [], p, z, res, _, hz => by
    rw [List.foldl_cons, run_star]
    show (jn [z]).foldl stC _ = _
    rw [show jn [z] = z from rfl, run_some hz, wr_cons]
    simp [wr]
  | m :: ms, p, z, res, hm, hz => by
    have h1 : 42 ∉ m := hm m (.head _)
    rw [List.foldl_cons, run_star, List.cons_append, jn_cons (by simp), List.foldl_append, run_some h1, List.nil_append, run_mid ms m z _ (fun q hq => hm q (.tail _ hq)) hz, wr_cons p]
    simp
theorem run_law (a z : List Nat) (ms : List (List Nat)) (ha : 42 ∉ a) (hm : ∀ m ∈ ms, 42 ∉ m) (hz : 42 ∉ z) :
    fin1 (trl (jn (a :: (ms ++ [z])))) = ((esc a ++ wr ms) ++ lit ".*") ++ esc z := by
  rw [fin1_trl, jn_cons (by simp), List.foldl_append, run_none ha, List.nil_append]
  have e : (42 :: jn (ms ++ [z])).foldl stC (esc a, none) = (42 :: jn (ms ++ [z])).foldl stC (esc a, some (esc [])) := by
    rw [List.foldl_cons, List.foldl_cons]
    simp [stC, esc_nil]
  rw [e, run_mid ms [] z _ hm hz, wr_cons]
  simp [contF, fin2]
theorem run_word {a : List Nat} (ha : 42 ∉ a) : fin1 (trl a) = esc a := by
  rw [fin1_trl, run_none ha]
  simp [contF, fin1]
theorem lawText_shape (a z : List Nat) (ms : List (List Nat)) : lawText (a :: (ms ++ [z])) = ((a ++ (ms.map wrap).flatten) ++ lit ".*") ++ z := by
  unfold lawText mids
  have h1 : (a :: (ms ++ [z])).length = ms.length + 2 := by simp
  rw [h1, if_neg (by omega)]
  have h4 : ((a :: (ms ++ [z])).drop 1).take (ms.length + 2 - 2) = ms := by simp
  have h5 : (a :: (ms ++ [z])).getD (ms.length + 2 - 1) [] = z := by
    simp only [List.getD, show ms.length + 2 - 1 = ms.length + 1 by omega, List.getElem?_cons_succ]
    rw [List.getElem?_append_right (Nat.le_refl _)]; simp
  rw [h4, h5]
  simp
/-- the pieces that are told, cut and kept -/
theorem cuts_run : ∀ (l : List Nat) (ps : List (Option (List Nat))) (told : List (List Nat)) (X Y : List (List Nat)) (cur : List Nat),
    told = ps.foldl cut1 [[]] → told = X ++ [cur] → (lastStar ps → cur = []) → X.filter (fun t => t != []) = Y →
    ∃ X', (l.foldl tr1 ps).foldl cut1 [[]] = X' ∧ X'.filter (fun t => t != []) = Y ++ ((match stars l with | p :: r => (cur ++ p) :: r | [] => [cur]).filter fun t => t != [])
  | [], ps, told, X, Y, cur, h1, h2, _, h4 => ⟨told, h1.symm, by rw [h2, List.filter_append, h4]; simp [stars]⟩
  | c :: r, ps, told, X, Y, cur, h1, h2, h3, h4 => by
    obtain ⟨p, pr, hs⟩ := stars_ex r
    by_cases hc : c = 42
    · subst hc
      by_cases hl : lastStar ps
      · have hcur := h3 hl
        subst hcur
        obtain ⟨X', e1, e2⟩ := cuts_run r ps told X Y [] h1 h2 h3 h4
        refine ⟨X', ?_, ?_⟩
        · rw [List.foldl_cons, tr1_stay hl]; exact e1
        · rw [e2, stars_star, hs]; simp
      · obtain ⟨X', e1, e2⟩ := cuts_run r (ps ++ [none]) (told ++ [[]]) (X ++ [cur]) (Y ++ [cur].filter fun t => t != []) [] (by rw [List.foldl_append, ← h1]; rfl) (by rw [h2]) (fun _ => rfl) (by rw [List.filter_append, h4])
        refine ⟨X', ?_, ?_⟩
        · rw [List.foldl_cons, tr1_star hl]; exact e1
        · rw [e2, stars_star, hs]
          by_cases hcur : cur = []
          · subst hcur; simp
          · simp [hcur]
    · have hlast : (esc [c]).getD ((esc [c]).length - 1) 0 = c := by
        rw [esc_one]; unfold esc1; split <;> simp
      have hcut : cut1 told (some (esc [c])) = X ++ [cur ++ [c]] := by
        rw [h2]
        show (X ++ [cur]).set _ _ = _
        rw [hlast]
        simp [List.getD]
      obtain ⟨X', e1, e2⟩ := cuts_run r (ps ++ [some (esc [c])]) (X ++ [cur ++ [c]]) X Y (cur ++ [c]) (by rw [List.foldl_append, ← h1, ← hcut]; rfl) rfl (fun h => by rw [lastStar_snoc] at h; cases h) h4
      refine ⟨X', ?_, ?_⟩
      · rw [List.foldl_cons, tr1_sign hc]; exact e1
      · rw [e2, stars_cons hc hs, hs]; simp
theorem cutR_trl (l : List Nat) : cutR (trl l) = (stars l).filter (fun t => t != []) := by
  obtain ⟨X', e1, e2⟩ := cuts_run l [] [[]] [] [] [] rfl rfl (fun h => absurd rfl h.1) rfl
  obtain ⟨p, r, hs⟩ := stars_ex l
  unfold cutR cuts trl
  rw [e1, e2, hs]
  simp
end
section
open PySem PySem.W PySem.Calls PyProof.Rows
set_option maxRecDepth 100000
set_option maxHeartbeats 8000000
theorem trl_pieces : ∀ (l : List Nat) (ps : List (Option (List Nat))), (∀ p, some p ∈ ps → ∃ c, p = esc [c]) → (∀ i : Nat, ps[i]? = some none → ps[i + 1]? ≠ some none) →
    (∀ p, some p ∈ l.foldl tr1 ps → ∃ c, p = esc [c]) ∧ (∀ i : Nat, (l.foldl tr1 ps)[i]? = some none → (l.foldl tr1 ps)[i + 1]? ≠ some none)
  | [], ps, h1, h2 => ⟨h1, h2⟩
  | c :: r, ps, h1, h2 => by
    rw [List.foldl_cons]
    by_cases hc : c = 42
    · subst hc
      by_cases hl : lastStar ps
      · rw [tr1_stay hl]; exact trl_pieces r ps h1 h2
      · rw [tr1_star hl]
        refine trl_pieces r _ (fun p hp => ?_) fun i hi => ?_
        · rcases List.mem_append.mp hp with hp | hp
          · exact h1 p hp
          · simp at hp
        · rcases Nat.lt_trichotomy (i + 1) ps.length with hlt | heq | hgt
          · rw [List.getElem?_append_left hlt]
            rw [List.getElem?_append_left (by omega)] at hi
            exact h2 i hi
          · rw [List.getElem?_append_left (by omega)] at hi
            refine absurd ⟨?_, ?_⟩ hl
            · intro e; rw [e] at hi; simp at hi
            · rw [show ps.length - 1 = i by omega]
              simp [List.getD, hi]
          · rw [List.getElem?_eq_none (by simp; omega)]
            intro e; cases e
    · rw [tr1_sign hc]
      refine trl_pieces r _ (fun p hp => ?_) fun i hi => ?_
      · rcases List.mem_append.mp hp with hp | hp
        · exact h1 p hp
        · have := List.mem_singleton.mp hp
          exact ⟨c, Option.some.inj this⟩
      · rcases Nat.lt_trichotomy (i + 1) ps.length with hlt | heq | hgt
        · rw [List.getElem?_append_left hlt]
          rw [List.getElem?_append_left (by omega)] at hi
          exact h2 i hi
        · rw [List.getElem?_append_right (by omega), show i + 1 - ps.length = 0 by omega]
          intro e; cases e
        · rw [List.getElem?_eq_none (by simp; omega)]
          intro e; cases e
theorem trl_some (l : List Nat) (p : List Nat) (h : some p ∈ trl l) : 1 ≤ p.length ∧ p.length ≤ 2 := by
  obtain ⟨c, rfl⟩ := (trl_pieces l [] (fun p hp => nomatch hp) (fun i hi => by simp at hi)).1 p h
  rw [esc_one]
  unfold esc1
  split <;> simp
theorem trl_alt (l : List Nat) : ∀ i : Nat, (trl l)[i]? = some none → (trl l)[i + 1]? ≠ some none :=
  (trl_pieces l [] (fun p hp => nomatch hp) (fun i hi => by simp at hi)).2
/-! the words -/
noncomputable def okSign (c : Nat) : Bool := decide (c < 128) && c != 63 && c != 91 && c != 42 && esc1 c == lesc1 c
noncomputable def okWord (w : List Nat) : Bool := w.length == 4 && w.all okSign
theorem word_ok : ∀ l ∈ rowTab, ∀ p : Bool, okWord (wordL l p) = true := by decide +kernel
structure GoodS (w : List Nat) : Prop where
  ascii : ∀ c ∈ w, c < 128
  q : ∀ c ∈ w, c ≠ 63
  b : ∀ c ∈ w, c ≠ 91
  s : 42 ∉ w
  e : esc w = lesc w
theorem goodS_nil : GoodS [] := ⟨fun _ h => (nomatch h), fun _ h => (nomatch h), fun _ h => (nomatch h), fun h => (nomatch h), rfl⟩
theorem goodS_of {w : List Nat} (h : okWord w = true) : GoodS w ∧ w.length = 4 := by
  unfold okWord at h
  rw [Bool.and_eq_true] at h
  obtain ⟨h1, h2⟩ := h
  have h3 : ∀ c ∈ w, (((c < 128 ∧ c ≠ 63) ∧ c ≠ 91) ∧ c ≠ 42) ∧ esc1 c = lesc1 c := fun c hc => by
    have := List.all_eq_true.mp h2 c hc
    simpa [okSign] using this
  refine ⟨⟨fun c hc => (h3 c hc).1.1.1.1, fun c hc => (h3 c hc).1.1.1.2, fun c hc => (h3 c hc).1.1.2, fun hc => (h3 42 hc).1.2 rfl, ?_⟩, eq_of_beq h1⟩
  have : ∀ v : List Nat, (∀ c ∈ v, esc1 c = lesc1 c) → esc v = lesc v := by
    intro v
    induction v with
    | nil => intro _; rfl
    | cons c r ih =>
      intro hv
      have e1 := hv c (.head _)
      have e2 := ih fun d hd => hv d (.tail _ hd)
      unfold esc lesc at e2 ⊢
      rw [List.flatMap_cons, List.flatMap_cons, e1, e2]
  exact this w fun c hc => (h3 c hc).2
noncomputable def wordsOf (xs : List Int) : List (List Nat) := (List.range xs.length).map fun (k : Nat) => wordL (rowL (xs.getD k 0)) (par k)
theorem wordsOf_len (xs : List Int) : (wordsOf xs).length = xs.length := by simp [wordsOf]
theorem wordsOf_get {xs : List Int} {k : Nat} (h : k < xs.length) : (wordsOf xs).getD k [] = wordL (rowL (xs.getD k 0)) (par k) := by
  simp [wordsOf, List.getD, h]
theorem wordsOf_mem {xs : List Int} {w : List Nat} (h : w ∈ wordsOf xs) : GoodS w ∧ w.length = 4 := by
  obtain ⟨k, _, rfl⟩ := List.mem_map.mp h
  exact goodS_of (word_ok _ (rowL_mem _) _)
/-! the parts -/
noncomputable def stn (x : Int) : Nat := if x % 4 = 3 then 2 else 1
theorem stn_pos (x : Int) : 1 ≤ stn x := by unfold stn; split <;> omega
theorem stn_le (x : Int) : stn x ≤ 2 := by unfold stn; split <;> omega
noncomputable def rawAt (t : Nat) (xs : List Int) (ws : List (List Nat)) : Nat → List (List Nat)
  | 0 => List.replicate t [] ++ [ws.getD 0 []]
  | i + 1 => rawAt t xs ws i ++ (List.replicate (stn (xs.getD (i + 1) 0) - 1) [] ++ [ws.getD (i + 1) []])
theorem rawAt_ne (t : Nat) (xs : List Int) (ws : List (List Nat)) : ∀ i, rawAt t xs ws i ≠ []
  | 0 => by simp [rawAt]
  | i + 1 => by simp [rawAt]
theorem jn_app : ∀ {X Y : List (List Nat)}, X ≠ [] → Y ≠ [] → jn (X ++ Y) = jn X ++ 42 :: jn Y
  | [], _, h, _ => absurd rfl h
  | [a], Y, _, h => by rw [List.singleton_append, jn_cons h]; rfl
  | a :: b :: r, Y, _, h => by
    rw [List.cons_append, jn_cons (by simp), jn_app (X := b :: r) (by simp) h, jn_cons (X := b :: r) (by simp)]; simp
theorem jn_rep (w : List Nat) : ∀ s : Nat, jn (List.replicate s [] ++ [w]) = List.replicate s 42 ++ w
  | 0 => rfl
  | s + 1 => by rw [List.replicate_succ, List.cons_append, jn_cons (by simp), jn_rep w s]; rfl
theorem jn_start (t : Nat) (xs : List Int) (ws : List (List Nat)) : jn (rawAt t xs ws 0) = List.replicate t 42 ++ ws.getD 0 [] := jn_rep _ t
theorem jn_step (t : Nat) (xs : List Int) (ws : List (List Nat)) (i : Nat) : jn (rawAt t xs ws (i + 1)) = (jn (rawAt t xs ws i) ++ List.replicate (stn (xs.getD (i + 1) 0)) 42) ++ ws.getD (i + 1) [] := by
  show jn (_ ++ _) = _
  rw [jn_app (rawAt_ne t xs ws i) (by simp), jn_rep]
  obtain ⟨k, hk⟩ : ∃ k, stn (xs.getD (i + 1) 0) = k + 1 := ⟨stn (xs.getD (i + 1) 0) - 1, by have := stn_pos (xs.getD (i + 1) 0); omega⟩
  rw [hk, Nat.add_sub_cancel, List.replicate_succ]
  simp
theorem jn_end {X : List (List Nat)} (h : X ≠ []) : ∀ e : Nat, jn (X ++ List.replicate e []) = jn X ++ List.replicate e 42
  | 0 => by simp
  | e + 1 => by
    have : X ++ List.replicate (e + 1) [] = (X ++ List.replicate e []) ++ [[]] := by rw [List.append_assoc, List.replicate_succ']
    rw [this, jn_app (by simp [h]) (by simp), jn_end h e, List.replicate_succ']
    simp [jn]
theorem lesc_nil : lesc [] = [] := rfl
theorem map_rep (s : Nat) : (List.replicate s ([] : List Nat)).map lesc = List.replicate s [] := by simp [lesc_nil]
theorem parts_step (t : Nat) (xs : List Int) (ws : List (List Nat)) (i : Nat) : (rawAt t xs ws (i + 1)).map lesc = ((rawAt t xs ws i).map lesc ++ List.replicate (stn (xs.getD (i + 1) 0) - 1) []) ++ [lesc (ws.getD (i + 1) [])] := by
  show List.map lesc (_ ++ _) = _
  rw [List.map_append, List.map_append, map_rep]; simp
theorem rawAt_mem {P : List Nat → Prop} (t : Nat) (xs : List Int) (ws : List (List Nat)) (h0 : P []) (h : ∀ w ∈ ws, P w) : ∀ i, ∀ p ∈ rawAt t xs ws i, P p := by
  have hg : ∀ i, P (ws.getD i []) := fun i => by
    by_cases hi : i < ws.length
    · have : ws.getD i [] = ws[i] := by simp [List.getD, hi]
      rw [this]; exact h _ (List.getElem_mem hi)
    · have : ws.getD i [] = [] := by simp [List.getD, List.getElem?_eq_none (Nat.not_lt.mp hi)]
      rw [this]; exact h0
  intro i
  induction i with
  | zero =>
    intro p hp
    rcases List.mem_append.mp hp with hp | hp
    · rw [(List.mem_replicate.mp hp).2]; exact h0
    · rw [List.mem_singleton.mp hp]; exact hg 0
  | succ i ih =>
    intro p hp
    rcases List.mem_append.mp hp with hp | hp
    · exact ih p hp
    · rcases List.mem_append.mp hp with hp | hp
      · rw [(List.mem_replicate.mp hp).2]; exact h0
      · rw [List.mem_singleton.mp hp]; exact hg (i + 1)
theorem rep_filter (s : Nat) : (List.replicate s ([] : List Nat)).filter (fun t => t != []) = [] := by
  rw [List.filter_eq_nil_iff]
  intro a ha
  rw [(List.mem_replicate.mp ha).2]; simp
theorem rawAt_filter (t : Nat) (xs : List Int) (ws : List (List Nat)) (h : ∀ w ∈ ws, w ≠ []) : ∀ i, i < ws.length → (rawAt t xs ws i).filter (fun t => t != []) = ws.take (i + 1)
  | 0, hi => by
    have e : ws.getD 0 [] = ws[0] := by simp [List.getD, hi]
    have hn := h _ (List.getElem_mem hi)
    show List.filter _ (_ ++ _) = _
    rw [List.filter_append, rep_filter, e, List.take_add_one, List.take_zero, List.getElem?_eq_getElem hi]
    simp [hn]
  | i + 1, hi => by
    have e : ws.getD (i + 1) [] = ws[i + 1] := by simp [List.getD, hi]
    have hn := h _ (List.getElem_mem hi)
    show List.filter _ (_ ++ (_ ++ _)) = _
    rw [List.filter_append, List.filter_append, rep_filter, e, rawAt_filter t xs ws h i (by omega), List.take_add_one (i := i + 1), List.getElem?_eq_getElem hi]
    simp [hn]
theorem rawAt_len (t : Nat) (xs : List Int) (ws : List (List Nat)) : ∀ i, (rawAt t xs ws i).length ≤ t + 1 + 2 * i ∧ i + 1 ≤ (rawAt t xs ws i).length
  | 0 => by simp [rawAt]
  | i + 1 => by
    have h1 := rawAt_len t xs ws i
    have h2 := stn_le (xs.getD (i + 1) 0)
    simp only [rawAt, List.length_append, List.length_replicate, List.length_singleton]; omega
theorem rep_sum (s : Nat) : ((List.replicate s ([] : List Nat)).map List.length).sum = 0 := by
  induction s with
  | zero => rfl
  | succ s ih => rw [List.replicate_succ, List.map_cons, List.sum_cons, ih]; rfl
theorem rawAt_sum (t : Nat) (xs : List Int) (ws : List (List Nat)) (h : ∀ w ∈ ws, w.length = 4) : ∀ i, ((rawAt t xs ws i).map List.length).sum ≤ 4 * (i + 1) := by
  have hg : ∀ i, (ws.getD i []).length ≤ 4 := fun i => by
    by_cases hi : i < ws.length
    · have : ws.getD i [] = ws[i] := by simp [List.getD, hi]
      rw [this]; exact Nat.le_of_eq (h _ (List.getElem_mem hi))
    · have : ws.getD i [] = [] := by simp [List.getD, List.getElem?_eq_none (Nat.not_lt.mp hi)]
      rw [this]; exact Nat.zero_le _
  intro i
  induction i with
  | zero =>
    have := hg 0
    simp only [rawAt, List.map_append, List.sum_append, rep_sum, List.map_cons, List.map_nil, List.sum_cons, List.sum_nil]; omega
  | succ i ih =>
    have := hg (i + 1)
    simp only [rawAt, List.map_append, List.sum_append, rep_sum, List.map_cons, List.map_nil, List.sum_cons, List.sum_nil]; omega
theorem jn_len : ∀ X : List (List Nat), (jn X).length ≤ (X.map List.length).sum + X.length
  | [] => Nat.le_refl _
  | [a] => by simp [jn]
  | a :: b :: r => by
    have := jn_len (b :: r)
    simp only [jn, List.length_append, List.length_cons, List.map_cons, List.sum_cons] at this ⊢; omega
theorem jn_mem {P : Nat → Prop} (h42 : P 42) : ∀ X : List (List Nat), (∀ p ∈ X, ∀ c ∈ p, P c) → ∀ c ∈ jn X, P c
  | [], _, c, hc => nomatch hc
  | [a], h, c, hc => h a (.head _) c hc
  | a :: b :: r, h, c, hc => by
    rcases List.mem_append.mp hc with hc | hc
    · exact h a (.head _) c hc
    · rcases List.mem_cons.mp hc with rfl | hc
      · exact h42
      · exact jn_mem h42 (b :: r) (fun p hp => h p (.tail _ hp)) c hc
/-! the law's own text of the full parts -/
noncomputable def fullTo (ps : List (List Nat)) : Nat → List (List Nat)
  | 0 => []
  | i + 1 => fullTo ps i ++ (if ps.getD i [] ≠ [] ∨ i = 0 ∨ i = ps.length - 1 then [ps.getD i []] else [])
theorem fullTo_mid (a z : List Nat) (ms : List (List Nat)) : ∀ j, j ≤ ms.length → fullTo (a :: (ms ++ [z])) (1 + j) = a :: (ms.take j).filter (fun t => t != [])
  | 0, _ => by simp [fullTo, List.getD]
  | j + 1, hj => by
    have ih := fullTo_mid a z ms j (by omega)
    rw [show 1 + (j + 1) = (1 + j) + 1 by omega]
    show fullTo _ (1 + j) ++ _ = _
    have e : (a :: (ms ++ [z])).getD (1 + j) [] = ms[j] := by
      rw [Nat.add_comm]
      simp only [List.getD, List.getElem?_cons_succ]
      rw [List.getElem?_append_left (by omega), List.getElem?_eq_getElem (by omega)]; rfl
    have hl : (a :: (ms ++ [z])).length = ms.length + 2 := by simp
    rw [ih, e, List.take_add_one, List.getElem?_eq_getElem (by omega), List.filter_append, hl]
    by_cases hm : ms[j] = []
    · rw [if_neg (by rintro (h | h | h); exact h hm; omega; omega), hm]; simp
    · rw [if_pos (.inl hm)]; simp [hm]
theorem fullTo_all (a z : List Nat) (ms : List (List Nat)) : fullTo (a :: (ms ++ [z])) (a :: (ms ++ [z])).length = a :: (ms.filter (fun t => t != []) ++ [z]) := by
  have hl : (a :: (ms ++ [z])).length = (1 + ms.length) + 1 := by simp; omega
  rw [hl]
  show fullTo _ (1 + ms.length) ++ _ = _
  have e : (a :: (ms ++ [z])).getD (1 + ms.length) [] = z := by
    rw [Nat.add_comm]
    simp only [List.getD, List.getElem?_cons_succ]
    rw [List.getElem?_append_right (Nat.le_refl _)]; simp
  rw [fullTo_mid a z ms ms.length (Nat.le_refl _), e, if_pos (.inr (.inr (by rw [hl]; omega))), List.take_length]
  simp
theorem shape {X : List (List Nat)} (h : 2 ≤ X.length) : ∃ a ms z, X = a :: (ms ++ [z]) := by
  match X, h with
  | a :: b :: r, _ => exact ⟨a, (b :: r).dropLast, (b :: r).getLast (by simp), by rw [List.dropLast_concat_getLast]⟩
theorem lesc_ne {p : List Nat} (h : p ≠ []) : lesc p ≠ [] := by
  cases p with
  | nil => exact absurd rfl h
  | cons c r =>
    intro e
    have : lesc1 c ++ lesc r = [] := by simpa [lesc] using e
    have h1 := (List.append_eq_nil_iff.mp this).1
    unfold lesc1 at h1
    split at h1 <;> cases h1
theorem map_congr' {X : List (List Nat)} (h : ∀ p ∈ X, GoodS p) : X.map esc = X.map lesc := List.map_congr_left fun p hp => (h p hp).e
theorem filter_lesc (ms : List (List Nat)) : (ms.map lesc).filter (fun t => t != []) = (ms.filter (fun t => t != [])).map lesc := by
  induction ms with
  | nil => rfl
  | cons m r ih =>
    by_cases h : m = []
    · subst h; simp only [List.map_cons, lesc_nil]; simpa using ih
    · have := lesc_ne h
      simp [h, this, ih]
/-- translate's text is the law's of the full parts -/
theorem law_full {X : List (List Nat)} (h : ∀ p ∈ X, GoodS p) (hl : 2 ≤ X.length) : fin1 (trl (jn X)) = lawText (fullTo (X.map lesc) X.length) := by
  obtain ⟨a, ms, z, rfl⟩ := shape hl
  have ha := h a (.head _)
  have hz := h z (.tail _ (List.mem_append_right _ (.head _)))
  have hm : ∀ m ∈ ms, GoodS m := fun m hm => h m (.tail _ (List.mem_append_left _ hm))
  rw [run_law a z ms ha.s (fun m q => (hm m q).s) hz.s]
  have e1 : (a :: (ms ++ [z])).map lesc = lesc a :: (ms.map lesc ++ [lesc z]) := by simp
  have e2 : (a :: (ms ++ [z])).length = (lesc a :: (ms.map lesc ++ [lesc z])).length := by simp
  rw [e1, e2, fullTo_all, lawText_shape, ha.e, hz.e, filter_lesc]
  unfold wr
  have e3 : (ms.filter (fun p => p != [])).map (fun p => wrap (esc p)) = ((ms.filter fun t => t != []).map lesc).map wrap := by
    rw [List.map_map]
    exact List.map_congr_left fun p hp => by rw [(hm p (List.mem_filter.mp hp).1).e]; rfl
  rw [e3]
theorem law_tp {X : List (List Nat)} (h : ∀ p ∈ X, GoodS p) (h0 : X ≠ []) : lawText ((stars (jn X)).map esc) = lawText (X.map lesc) := by
  rw [stars_jn X h0 fun p hp => (h p hp).s, map_congr' h]
theorem law_cut {X : List (List Nat)} (h : ∀ p ∈ X, GoodS p) (h0 : X ≠ []) : cutR (trl (jn X)) = X.filter (fun t => t != []) := by
  rw [cutR_trl, stars_jn X h0 fun p hp => (h p hp).s]
theorem law_word_tp {w : List Nat} (h : GoodS w) : lawText ((stars w).map esc) = lit ".*" ++ lesc w := by
  have := law_tp (X := [w]) (fun p hp => by rw [List.mem_singleton.mp hp]; exact h) (by simp)
  rw [show jn [w] = w from rfl] at this
  rw [this]
  simp [lawText]
theorem law_word {w : List Nat} (h : GoodS w) : fin1 (trl w) = lesc w := by rw [run_word h.s, h.e]
/-! where two stars stand together, the two part -/
theorem filter_short (ms : List (List Nat)) : ((((ms.filter fun t => t != []).map wrap).flatten).length ≤ ((ms.map wrap).flatten).length) ∧ ([] ∈ ms → ((((ms.filter fun t => t != []).map wrap).flatten).length < ((ms.map wrap).flatten).length)) := by
  induction ms with
  | nil => simp
  | cons m r ih =>
    by_cases h : m = []
    · subst h
      have h1 := wrap_len []
      have e : (List.filter (fun t => t != []) ([] :: r)) = r.filter (fun t => t != []) := by simp
      rw [e, List.map_cons, List.flatten_cons, List.length_append, h1]
      simp only [List.length_nil]
      have := ih.1
      exact ⟨by omega, fun _ => by omega⟩
    · have e : (List.filter (fun t => t != []) (m :: r)) = m :: r.filter (fun t => t != []) := by simp [h]
      rw [e, List.map_cons, List.flatten_cons, List.length_append, List.map_cons, List.flatten_cons, List.length_append]
      have h1 := ih.1
      refine ⟨by omega, fun hm => ?_⟩
      rcases List.mem_cons.mp hm with hm | hm
      · exact absurd hm.symm h
      · have := ih.2 hm; omega
theorem law_part {X : List (List Nat)} {a z : List Nat} {ms : List (List Nat)} (e : X = a :: (ms ++ [z])) (hn : [] ∈ ms) : lawText (fullTo (X.map lesc) X.length) ≠ lawText (X.map lesc) := by
  subst e
  have e1 : (a :: (ms ++ [z])).map lesc = lesc a :: (ms.map lesc ++ [lesc z]) := by simp
  have e2 : (a :: (ms ++ [z])).length = (lesc a :: (ms.map lesc ++ [lesc z])).length := by simp
  rw [e1, e2, fullTo_all, lawText_shape, lawText_shape]
  intro q
  have h1 := congrArg List.length q
  simp only [List.length_append] at h1
  have h2 := (filter_short (ms.map lesc)).2 (by
    have := List.mem_map_of_mem (f := lesc) hn
    exact this)
  omega
end
section
theorem kz_Trl : True := by
  k_with_none
  k_with "mine:room" => (first | exact Room.lt (by assumption) | exact Room.lt (Room.deep (k := 1) (e := 0) (by assumption) (by decide)) | exact Room.lt (Room.deep (k := 1) (e := 0) (Room.deep (k := 1) (e := 1) (by assumption) (by decide)) (by decide)) | exact Room.deep (by assumption) (by decide) | ((with_reducible show Room _ _); unfold Room; decide) | ((with_reducible show Room _ _); unfold Room; simp only [depth_under_make, depth_under_kw, depth_in1, depth_deeper, depth_caller]; decide))
  k_with "mine:units" => (first | exact Units.deep (by assumption) (by decide) | exact Units.deep2 (by assumption) (by decide) | ((with_reducible show Units _ _); unfold Units; ktr_units))
  k_with "mine:all1" => (first | exact fnil | (refine fcons (by with_unfolding_all rfl) ?_; walk_at "mine:all1"))
  k_with "mine:allin" => (first | exact fnil | (refine fcons (by k_memK) ?_; walk_at "mine:allin") | (intro p9 h9; kst_mem))
  k_with "mine:all" => (first | exact fnil | (refine' fcons ?mqfa ?mqfb; (case mqfa => k_ne); (case mqfb => walk_at "mine:all")))
  k_with "mine:cell" => (first
  | (refine' callP ?mqk1 ?mqk2 ?mqk3 ?mqk5 ?mqkA ?mqkF ?mqkK ?mqk6 ?mqk7 ?mqk8 ?mqk9 ?mqkB ?_ ?mqc2 ?mqc3 ?mqc4 ?mqc5; (case mqkA => exact rfl); (case mqkF => exact rfl); (case mqkK => assumption); (case mqk1 => k_asm); (case mqk2 => k_asm); (case mqk3 => k_asm); (case mqk5 => k_asm); (case mqk6 => k_is); (case mqk7 => k_is); (case mqk8 => ktr_room); (case mqk9 => first | exact BindsTo.of_eq rfl | exact binds_K (by k_in) rfl (by k_is) rfl rfl rfl); (case mqc5 => decide); (case mqkB => exact locs rfl); (case mqc2 => exact rfl); (case mqc3 => exact rfl); (case mqc4 => exact rfl); k_whole; intro _ _ _ _ _ _ _ _ _ _; walk_at "mine:let"; (try dsimp only); (try k_fold); (try walk_at "mine:env"))
  | (refine' callPC ?mqk1 ?mqk2 ?mqk3 ?mqk5 ?mqkA ?mqkF ?mqkK ?mqk6 ?mqk7 ?mqk8 ?mqk9 ?mqkB ?mqkD ?_ ?mqc2 ?mqc3 ?mqc4; (case mqkA => exact rfl); (case mqkF => exact rfl); (case mqkK => assumption); (case mqk1 => k_asm); (case mqk2 => k_asm); (case mqk3 => k_asm); (case mqk5 => k_asm); (case mqk6 => k_is); (case mqk7 => k_is); (case mqk8 => ktr_room); (case mqk9 => first | exact BindsTo.of_eq rfl | exact binds_K (by k_in) rfl (by k_is) rfl rfl rfl); (case mqkB => exact rfl); (case mqkD => decide +kernel); (case mqc2 => exact rfl); (case mqc3 => exact rfl); (case mqc4 => exact rfl); k_whole; intro _ _ _ _ _ _ _ _ N' Y' _ _ _; walk_at "mine:let"; k_cells Y'; (try simp only [List.cons_append, List.nil_append] at N'); (try (revert N'; intro _)); (try dsimp only); (try k_fold); (try walk_at "mine:env")))
  k_with "call type:bytes" => (k_here; (with_reducible show wpAny _ _ (call (Value.type "bytes") [Value.ref _]) _ _ _); k_dflt (refine' KBa.make_K ?mqkbaF ?mqkbaN ?mqkbah ?mqkbal ?mqkbai ?mqkbar ?mqkban ?_; (case mqkbaF => k_asm); (case mqkbaN => k_asm); (case mqkbah => rfl); (case mqkbal => exact News.isList (by k_asm) (by k_mem)); (case mqkbai => first | exact IntsAre.cons _ _ (IntsAre.cons _ _ (IntsAre.cons _ _ (IntsAre.cons _ _ IntsAre.nil))) | exact IntsAre.cons _ _ (IntsAre.cons _ _ IntsAre.nil) | exact IntsAre.cons _ _ IntsAre.nil); (case mqkbar => (repeat (first | exact fnil | refine fcons ⟨by omega, by omega⟩ ?_))); (case mqkban => exact Nat.le_of_ble_eq_true rfl); k_whole); intro _ _ _ _ _ _)
  k_with "call type:list" => (k_here; (with_reducible show wpAny _ _ (call (Value.type "list") [Value.bytes _ _]) _ _ _); first
  | (k_dflt (refine' list_bytes1 ?mqk1 ?mqk2 ?mqk3 ?mqk4 ?_; (case mqk1 => k_asm); (case mqk2 => k_asm); (case mqk3 => rfl); (case mqk4 => assumption)); intro _ _ _ _ _ _ _ l1; (try k_lt l1); (try (revert l1; intro _)))
  | (k_dflt (refine' list_bytes2 ?mqk1 ?mqk2 ?mqk3 ?mqk4 ?_; (case mqk1 => k_asm); (case mqk2 => k_asm); (case mqk3 => rfl); (case mqk4 => assumption)); intro _ _ _ _ _ _ _ _ l1; (try k_lt l1); (try (revert l1; intro _))))
  k_with "exec For Name BinOp cons nil" => (k_here; (with_unfolding_all refine' For_invVF ?mqkF ?mqk1 ?mqk2 ?_; (case mqkF => k_asm); (case mqk1 => exact rfl); (case mqk2 => exact rfl); k_whole))
  k_with "mine:env" => ((show (let AA := _; let EE := _; wpAny _ AA (execs _ EE) _ _ _)); intro AA EE)
  k_with "mine:let" => ((rename Fr _ _ _ _ => lF'); refine fr_let lF' ?_; clear lF'; intro _ _)
  k_with "storeName" => (k_here; k_dflt (refine' storeM ?mqF ?mqN ?_ ?mqhk ?mqhx; (case mqF => k_asm); (case mqN => k_asm); (case mqhk => exact rfl); (case mqhx => exact rfl); k_whole); intro _ _ _ _ _; (try k_sweep))
  k_with "mine:turn" => (walk_at "mine:let"; (show wpAny _ _ _ _ _ _); k_fold)
  k_with "mine:led" => (intro p hp; revert p; repeat (first | exact fnil | refine fcons rfl ?_))
  k_with "mine:same" => ((try dsimp (config := { zetaDelta := true }) only); ksw_same)
  k_with "mine:used" => (intro _ _ _ _ _ _ r9; (obtain ⟨_, e9⟩ := r9); subst e9; (try dsimp only); (try k_fold))
  k_with "mine:usedN" => (intro _ _ _ _ _ _ _ _ _ _; (try dsimp only); (try k_fold))
  k_with "mine:forG" => (k_dflt (refine' For_G ?mqkF ?_; (case mqkF => k_asm)))
  k_with "mine:forT" => (k_dflt (refine' For_T ?mqkF ?_; (case mqkF => k_asm)))
  k_with "call type:type" => (k_here; (with_reducible show wpAny _ _ (call _ [Value.bytes _ _]) _ _ _); refine call_type_of (Tx := "bytes") rfl (by decide +kernel) ?_)
  k_with "pyIter bytes" => ((with_reducible show wpAny _ _ (pyIter (Value.bytes _ _)) (fun it s₂ => LoopAtV _ _ _ _ _ _ _ _ _ it s₂) _ _); k_here; k_bytesUnr)
  k_with "subscriptTail" => (k_here; (with_reducible show wpAny _ _ (subscriptTail (Expr.Name "_B64" _) _ (Value.bytes _ _) (Value.int _ _)) _ _ _); with_unfolding_all refine' b64_item ?mqh0 ?mqh1 (fun _ _ _ _ => ?_) ?mqhs ?mqht; (case mqh0 => first | assumption | exact Nat.le_trans (by assumption) (by decide) | omega); (case mqh1 => first | assumption | exact Nat.le_trans (by assumption) (by decide) | omega); (case mqhs => with_unfolding_all rfl); (case mqht => intro _; with_unfolding_all rfl))
  k_with "binaryOp RShift int int" => (k_here; first
  | (refine' rsh2 ?mqhn ?_; (case mqhn => first | assumption | exact Nat.le_trans (by assumption) (by decide) | omega))
  | (refine' rsh4 ?mqhn ?_; (case mqhn => first | assumption | exact Nat.le_trans (by assumption) (by decide) | omega)))
  k_with "binaryOp LShift int int" => (k_here; first
  | (refine' lsh_ 8 256 ?mqhn ?mqhk ?mqhP ?mqh0 ?mqh1 ?_; (case mqhn => decide); (case mqhk => decide); (case mqhP => decide); (case mqh0 => first | assumption | exact Nat.le_trans (by assumption) (by decide) | omega); (case mqh1 => first | assumption | exact Nat.le_trans (by assumption) (by decide) | omega))
  | (refine' lsh_ 6 64 ?mqhn ?mqhk ?mqhP ?mqh0 ?mqh1 ?_; (case mqhn => decide); (case mqhk => decide); (case mqhP => decide); (case mqh0 => first | assumption | exact Nat.le_trans (by assumption) (by decide) | omega); (case mqh1 => first | assumption | exact Nat.le_trans (by assumption) (by decide) | omega))
  | (refine' lsh_ 4 16 ?mqhn ?mqhk ?mqhP ?mqh0 ?mqh1 ?_; (case mqhn => decide); (case mqhk => decide); (case mqhP => decide); (case mqh0 => first | assumption | exact Nat.le_trans (by assumption) (by decide) | omega); (case mqh1 => first | assumption | exact Nat.le_trans (by assumption) (by decide) | omega))
  | (refine' lsh_ 2 4 ?mqhn ?mqhk ?mqhP ?mqh0 ?mqh1 ?_; (case mqhn => decide); (case mqhk => decide); (case mqhP => decide); (case mqh0 => first | assumption | exact Nat.le_trans (by assumption) (by decide) | omega); (case mqh1 => first | assumption | exact Nat.le_trans (by assumption) (by decide) | omega)))
  k_with "binaryOp BitOr int int" => (k_here; first
  | (refine' or_ 8 256 ?mqhP ?mqh0 ?mqh1 ?mqh2 ?_; (case mqhP => decide); (case mqh0 => first | assumption | exact Nat.le_trans (by assumption) (by decide) | omega); (case mqh1 => first | assumption | exact Nat.le_trans (by assumption) (by decide) | omega); (case mqh2 => first | assumption | exact Nat.le_trans (by assumption) (by decide) | omega))
  | (refine' or_ 6 64 ?mqhP ?mqh0 ?mqh1 ?mqh2 ?_; (case mqhP => decide); (case mqh0 => first | assumption | exact Nat.le_trans (by assumption) (by decide) | omega); (case mqh1 => first | assumption | exact Nat.le_trans (by assumption) (by decide) | omega); (case mqh2 => first | assumption | exact Nat.le_trans (by assumption) (by decide) | omega))
  | (refine' or_ 4 16 ?mqhP ?mqh0 ?mqh1 ?mqh2 ?_; (case mqhP => decide); (case mqh0 => first | assumption | exact Nat.le_trans (by assumption) (by decide) | omega); (case mqh1 => first | assumption | exact Nat.le_trans (by assumption) (by decide) | omega); (case mqh2 => first | assumption | exact Nat.le_trans (by assumption) (by decide) | omega))
  | (refine' or_ 2 4 ?mqhP ?mqh0 ?mqh1 ?mqh2 ?_; (case mqhP => decide); (case mqh0 => first | assumption | exact Nat.le_trans (by assumption) (by decide) | omega); (case mqh1 => first | assumption | exact Nat.le_trans (by assumption) (by decide) | omega); (case mqh2 => first | assumption | exact Nat.le_trans (by assumption) (by decide) | omega)))
  k_with "binaryOp BitAnd int int" => (k_here; first
  | refine and65535 ?_
  | refine and63 ?_
  | refine and15 ?_
  | refine and3 ?_)
  k_with "getMethod bytes" => (k_here; (with_reducible refine method_translate ?_))
  k_with "call builtin:bytes.translate" => (k_here; first
  | (refine' call_urlenc ?mqh1 ?mqh2 (fun _ _ => ?_); (case mqh1 => assumption); (case mqh2 => first | kernel_rfl | decide +kernel))
  | (refine' call_urldec ?mqh1 ?mqh2 (fun _ _ => ?_); (case mqh1 => assumption); (case mqh2 => first | kernel_rfl | decide +kernel)))
  k_with "call type:str" => (k_here; (with_reducible show wpAny _ _ (call (Value.type "str") [Value.bytes _ _, Value.str _ _]) _ _ _); first
  | (refine' call_strword0 ?mqh1 (fun _ _ => ?_); (case mqh1 => assumption))
  | (refine' call_strword ?mqh1 (fun _ _ => ?_); (case mqh1 => assumption)))
  k_with "getMethod str" => (k_here; first | with_reducible refine m_encode ?_ | with_reducible refine m_translate ?_)
  k_with "call builtin:str.encode" => (k_here; refine' call_encword ?mqh1 (fun _ _ => ?_); (case mqh1 => assumption))
  k_with "binaryOp Add str str" => (k_here; refine' add_SS ?mqhx ?mqhy ?mqhsz (fun _ _ => ?_); (case mqhx => first | rfl | exact ofS _ | exact S_of _); (case mqhy => first | rfl | exact ofS _ | exact S_of _); (case mqhsz => ((try simp only [List.length_append, List.length_cons, List.length_nil, List.length_replicate]); omega)))
  k_with "binaryOp Mult str int" => (k_here; refine' mul_S ?mqhx ?mqh0 ?mqh1 (fun _ _ => ?_); (case mqhx => exact ofS _); (case mqh0 => first | assumption | exact Nat.le_trans (by assumption) (by decide) | omega); (case mqh1 => first | assumption | exact Nat.le_trans (by assumption) (by decide) | omega))
  k_with "subscriptTail" => (k_here; (with_reducible show wpAny _ _ (subscriptTail _ _ (Value.str _ _) (Value.int _ _)) _ _ _); with_unfolding_all refine' item_S ?mqhx ?mqh0 ?mqh1 ?mqh2 (fun _ _ => ?_) ?mqhs ?mqht; (case mqhx => first | rfl | exact ofS _ | exact S_of _); (case mqh0 => ktr_rel); (case mqh1 => ktr_rel); (case mqh2 => ktr_rel); (case mqhs => with_unfolding_all rfl); (case mqht => intro _; with_unfolding_all rfl))
  k_with "eval Constant int" => (with_reducible refine const_i ?_)
  k_with "binaryOp Add int int" => (with_reducible refine add_i ?_)
  k_with "binaryOp Sub int int" => (with_reducible refine sub_i ?_)
  trivial
set_option maxHeartbeats 8000000
theorem kw_Jx115 : True := by
  k_with "call type:object" => (k_here; k_dflt (refine' call_object ?mqk1 ?mqk2 ?_; (case mqk1 => k_asm); (case mqk2 => k_asm)); intro _ _ _ _ _)
  trivial
theorem kw_j13 : True := by
  k_with "call ref" => (k_here; (with_reducible show wpAny _ _ (call (Value.ref 171) _ _) _ _ _); k_dflt (refine' Spec.useNew (c_trn1 _ _ _ (by assumption) (by assumption) _ _) ?mqk1 ?mqk2 ?mqk3 ?mqk4 ?mqk5 ?mqkK ?mqkd ?mqku ?mqkp ?_; (case mqk1 => k_asm); (case mqk2 => k_asm); (case mqk3 => k_asm); (case mqk4 => k_asm); (case mqk5 => k_asm); (case mqkK => first | exact rfl | assumption); (case mqkd => ktr_room); (case mqku => ktr_units); (case mqkp => exact trivial)); walk_at "mine:usedN")
  trivial

theorem kw_j12 : True := by
  k_with "call ref" => (k_here; (with_reducible show wpAny _ _ (call (Value.ref 178) _ _) _ _ _); k_dflt (refine' Spec.use (c_join _ _ _ _ _ (by assumption) (by assumption) (by assumption) (by assumption)) ?mqk1 ?mqk2 ?mqk3 ?mqk4 ?mqk5 ?mqkK ?mqkd ?mqku ?mqkp ?_; (case mqk1 => k_asm); (case mqk2 => k_asm); (case mqk3 => k_asm); (case mqk4 => k_asm); (case mqk5 => k_asm); (case mqkK => first | exact rfl | assumption); (case mqkd => ktr_room); (case mqku => ktr_units); (case mqkp => exact News.isList (by k_asm) (by k_mem))); walk_at "mine:used")
  trivial

theorem c_translate (w : World) (l : List Nat) (hl : ∀ c ∈ l, c < 128 ∧ c ≠ 63 ∧ c ≠ 91) (hsz : l.length ≤ 1000) (t : Tok) :
    Spec w 14 164 [.str (S l) t] [] (fun _ => True) (fun _ _ v => ∃ t, v = .str (S (lit "(?s:" ++ fin1 (trl l) ++ lit ")\\Z")) t) := by
  have hps1 : ∀ p, some p ∈ trl l → p.length ≤ 10 := fun p hp => Nat.le_trans (trl_some l p hp).2 (by decide)
  have hps2 : (trl l).length ≤ 1000 := Nat.le_trans (trl_len l) hsz
  have hps3 := trl_alt l
  unfold Spec
  k_fill
  intros; rename_i hret
  refine wpAny_call ?_
  k_dflt cell_enter
  rename _ = Shared.heap _ => hgg
  k_steps
  exact hret _ _ _ (by rw [← hgg]; assumption) ⟨_, rfl⟩
end
section
open PySem PySem.W PySem.Calls PyProof.Rows
set_option maxRecDepth 100000
set_option maxHeartbeats 8000000
open LCg
/-! lists of texts, compared -/
noncomputable def strD (ls : List (List Nat)) : List PyData := ls.map fun l => PyData.str (S l)
theorem strs_carried : ∀ {vs : List Value} {ls : List (List Nat)}, StrsAre vs (ls.map S) → CarriedAll vs (strD ls)
  | _, [], h => by cases h; exact .nil
  | _, a :: ls, h => by
    cases h with
    | cons _ t h => exact .cons (.str _ t) (strs_carried h)
theorem strs_lay : ∀ {ls : List (List Nat)}, (∀ l ∈ ls, ∀ c ∈ l, c < 128) → PyData.canLayAll0 (strD ls) = true ∧ PyData.depthAll (strD ls) = 0
  | [], _ => ⟨rfl, rfl⟩
  | a :: ls, h => by
    obtain ⟨h1, h2⟩ := strs_lay (ls := ls) fun l hl => h l (.tail _ hl)
    have h4 : ∀ c ∈ a, c < 1114112 := fun c hc => Nat.lt_trans (h a (.head _) c hc) (by decide)
    have h3 : PyData.strOk (S a) = true := by simpa [PyData.strOk, S] using h4
    unfold strD at h1 h2 ⊢
    rw [List.map_cons]
    exact ⟨by simp [PyData.canLayAll0, PyData.canLay0, h3, h1], by simp [PyData.depthAll, PyData.depth, h2]⟩
theorem strs_shaped {ls : List (List Nat)} (h : ∀ l ∈ ls, ∀ c ∈ l, c < 128) : SeqAt.shaped (.list (strD ls)) = true := by
  obtain ⟨h1, h2⟩ := strs_lay h
  unfold SeqAt.shaped
  rw [Bool.and_eq_true]
  refine ⟨by simpa [PyData.canLay0] using h1, ?_⟩
  simp [PyData.depth, h2]
section
variable {prog : Program} {w : World} {A : Around} {E : Value → Shared → Prop} {s : Shared} {a b : Addr} {xs ys : List Value} {ls : List (List Nat)} {Q : Value → Shared → Prop}
theorem eq_strs (ha : s.heap.IsList a xs.toArray) (hb : s.heap.IsList b ys.toArray) (hx : StrsAre xs (ls.map S)) (hy : StrsAre ys (ls.map S)) (hl : ∀ l ∈ ls, ∀ c ∈ l, c < 128) (hu : A.units + 64 < cLine) (h : Q (.bool true) s) :
    wpAny (model prog w) A (compareOp .Eq (.ref a) (.ref b)) Q E s :=
  eq_dataH (reads_newData ha (strs_carried hx)) (reads_newData hb (strs_carried hy)) (strs_shaped hl) (strs_shaped hl) hu (by rw [SeqAt.eqv_refl _ (SeqAt.canLay_of_shaped (strs_shaped hl))]; exact h)
theorem ne_strs (ha : s.heap.IsList a xs.toArray) (hb : s.heap.IsList b ys.toArray) (hx : StrsAre xs (ls.map S)) (hy : StrsAre ys (ls.map S)) (hl : ∀ l ∈ ls, ∀ c ∈ l, c < 128) (hu : A.units + 64 < cLine) (h : Q (.bool false) s) :
    wpAny (model prog w) A (compareOp .NotEq (.ref a) (.ref b)) Q E s :=
  ne_dataH (reads_newData ha (strs_carried hx)) (reads_newData hb (strs_carried hy)) (strs_shaped hl) (strs_shaped hl) hu (by rw [SeqAt.eqv_refl _ (SeqAt.canLay_of_shaped (strs_shaped hl))]; exact h)
end
/-! lists of rows -/
noncomputable def RowAt (rs : List Int) (i : Nat) (v : Value) : Prop := i < rs.length ∧ ∃ t, v = .bytes (byteArr (rowL (rs.getD i 0))) t
noncomputable def RowsAre (vs : List Value) (rs : List Int) : Prop := vs.length = rs.length ∧ ∀ i y, vs[i]? = some y → RowAt rs i y
section
variable {prog : Program} {w : World} {A : Around} {E : Value → Shared → Prop} {s : Shared} {a b D : Addr} {vs ys : List Value} {rs : List Int} {Q : Value → Shared → Prop}
theorem eq_rows (ha : s.heap.IsList a vs.toArray) (hb : s.heap.IsList b ys.toArray) (hx : RowsAre vs rs) (hy : RowsAre ys rs) (hu : A.units < cLine) (h : Q (.bool true) s) :
    wpAny (model prog w) A (compareOp .Eq (.ref a) (.ref b)) Q E s := by
  refine SeqAt.eq_listAt (e := fun _ => true) ha hb (by simp [hx.1, hy.1]) hu (fun j h1 h2 => ?_) ?_
  · have g1 : vs[j]? = some vs.toArray[j] := by simp
    have g2 : ys[j]? = some ys.toArray[j] := by simp
    obtain ⟨_, t, e1⟩ := hx.2 j _ g1
    obtain ⟨_, u, e2⟩ := hy.2 j _ g2
    rw [e1, e2]
    intro prog w E Q hq
    refine eqBool_bytes ?_
    simpa using hq
  · have : (List.range vs.toArray.size).all (fun _ => true) = true := by simp
    rw [this]; exact h
theorem len_rows (hl : s.heap.IsList D vs.toArray) (hi : RowsAre vs rs) (hz : rs.length ≤ 100000) (h : ∀ t k, Q (.int (rs.length : Int) t) { s with toks := k }) : wpAny (model prog w) A (call (.builtin "len") [.ref D]) Q E s := by
  refine len_list hl (by simp [hi.1]; omega) ?_
  rw [show ((vs.toArray.size : Nat) : Int) = (rs.length : Int) by simp [hi.1]]
  exact h _ _
theorem item_rows {value slice : PySem.Expr} {k : Int} {u : Tok} (hl : s.heap.IsList D vs.toArray) (hi : RowsAre vs rs) (hz : rs.length ≤ 100000) (h0 : 0 ≤ k) (h1 : k < (rs.length : Int)) (h : ∀ t, Q (.bytes (byteArr (rowL (rs.getD k.toNat 0))) t) s)
    (hs : subscripted slice false (.ref D) (.int k u) = operate [.ref D, .int k u] (getItem (.ref D) (.int k u)) := by with_unfolding_all rfl) (hg : ∀ r, letTemporaryGo value (.ref D) r = pure () := by intro _; with_unfolding_all rfl) :
    wpAny (model prog w) A (subscriptTail value slice (.ref D) (.int k u)) Q E s := by
  have hk : k.toNat < vs.length := by rw [hi.1]; omega
  obtain ⟨_, t, ev⟩ := hi.2 k.toNat vs[k.toNat] (List.getElem?_eq_getElem hk)
  refine item_listL hl h0 (by omega) (List.getElem?_eq_getElem hk) ?_ hs hg
  rw [ev]; exact h t
theorem item_words {value slice : PySem.Expr} {k : Int} {u : Tok} (hl : s.heap.IsList D vs.toArray) (hi : StrsAre vs ((wordsOf rs).map S)) (hz : rs.length ≤ 100000) (h0 : 0 ≤ k) (h1 : k < (rs.length : Int)) (h : ∀ t, Q (.str (wordS (rowL (rs.getD k.toNat 0)) (par k)) t) s)
    (hs : subscripted slice false (.ref D) (.int k u) = operate [.ref D, .int k u] (getItem (.ref D) (.int k u)) := by with_unfolding_all rfl) (hg : ∀ r, letTemporaryGo value (.ref D) r = pure () := by intro _; with_unfolding_all rfl) :
    wpAny (model prog w) A (subscriptTail value slice (.ref D) (.int k u)) Q E s := by
  have hlen := wordsOf_len rs
  refine item_SL hl hi (by omega) h0 (by omega) (fun t => ?_) hs hg
  rw [wordsOf_get (by omega), show ((k.toNat : Nat) : Int) = k by omega]
  exact h t
theorem item_two {value slice : PySem.Expr} {k : Int} {u t1 t2 : Tok} (hl : s.heap.IsList D [.str (PySem.Str.ofString "+/") t1, .str (PySem.Str.ofString "-_") t2].toArray) (h : ∀ t, Q (.str (S (two (par k))) t) s)
    (hs : subscripted slice false (.ref D) (.int (k.fmod 2) u) = operate [.ref D, .int (k.fmod 2) u] (getItem (.ref D) (.int (k.fmod 2) u)) := by with_unfolding_all rfl) :
    wpAny (model prog w) A (subscriptTail value slice (.ref D) (.int (k.fmod 2) u)) Q E s := by
  have e1 : PySem.Str.ofString "+/" = S [43, 47] := by decide +kernel
  have e2 : PySem.Str.ofString "-_" = S [45, 95] := by decide +kernel
  have hm : k.fmod 2 = k % 2 := Int.fmod_eq_emod_of_nonneg k (by decide)
  refine tail_any hl.typeIs slot_list_getitem.lookup ?_ hs
  by_cases hk : k % 2 = 1
  · refine wpAny_getItem_list (x := .str (PySem.Str.ofString "-_") t2) hl (by omega) (by omega) (by rw [hm, hk]; rfl) ?_
    have := h t2
    rw [show par k = true from decide_eq_true hk] at this
    rw [e2]; exact this
  · refine wpAny_getItem_list (x := .str (PySem.Str.ofString "+/") t1) hl (by omega) (by omega) (by rw [hm, show k % 2 = 0 by omega]; rfl) ?_
    have := h t1
    rw [show par k = false from decide_eq_false hk] at this
    rw [e1]; exact this
end
/-! lists of texts, made -/
theorem strs_app : ∀ {vs ws : List Value} {ls ks : List (List Nat)}, StrsAre vs (ls.map S) → StrsAre ws (ks.map S) → StrsAre (vs ++ ws) ((ls ++ ks).map S)
  | _, _, [], _, h, k => by cases h; exact k
  | _, _, a :: ls, _, h, k => by
    cases h with
    | cons _ t h => exact .cons _ t (strs_app h k)
section
variable {prog : Program} {w : World} {A : Around} {E : Value → Shared → Prop} {s : Shared} {h₀ : Heap} {L : Addr} {m : Str → Option Value} {news : List (Addr × Obj)} {a b D : Addr} {vs ws : List Value} {ls ks : List (List Nat)} {Q : Value → Shared → Prop}
theorem add_SL (F : Fr h₀ L s.heap m) (N : News h₀ L s.heap news) (ha : s.heap.IsList a vs.toArray) (hb : s.heap.IsList b ws.toArray) (hi : StrsAre vs (ls.map S)) (hj : StrsAre ws (ks.map S)) (hz : ls.length + ks.length ≤ 100000)
    (h : ∀ D us h', StrsAre us ((ls ++ ks).map S) → Fr h₀ L h' m → News h₀ L h' ((D, W.listOf us.toArray 0) :: news) → (∀ p ∈ news, p.1 < D) → Q (.ref D) { s with heap := h' }) : wpAny (model prog w) A (binaryOp .Add (.ref a) (.ref b)) Q E s := by
  refine add_lists F N ha hb (fun h' F' N' => ?_) (by rw [strs_len hi, strs_len hj, sizeLine_eq]; omega)
  exact h _ _ h' (strs_app hi hj) F' N' fun p hp => Heap.lt_size (N p hp).1
theorem rep_strs {t : Tok} : ∀ n : Nat, StrsAre ((List.replicate n [Value.str (PySem.Str.ofString "") t]).flatten) ((List.replicate n ([] : List Nat)).map S)
  | 0 => .nil
  | n + 1 => by rw [List.replicate_succ, List.replicate_succ]; exact .cons _ t (rep_strs n)
theorem mul_SL {n : Int} {t u : Tok} (F : Fr h₀ L s.heap m) (N : News h₀ L s.heap news) (ha : s.heap.IsList a [Value.str (PySem.Str.ofString "") t].toArray) (h0 : 0 ≤ n) (h1 : n ≤ 100)
    (h : ∀ D us h', StrsAre us ((List.replicate n.toNat ([] : List Nat)).map S) → Fr h₀ L h' m → News h₀ L h' ((D, W.listOf us.toArray 0) :: news) → (∀ p ∈ news, p.1 < D) → Q (.ref D) { s with heap := h' }) : wpAny (model prog w) A (binaryOp .Mult (.ref a) (.int n u)) Q E s :=
  KMa.mul F N ha (by omega) (by omega) (by simp; omega) rfl fun D h' F' N' l1 => h D _ h' (rep_strs _) F' N' l1
theorem slice_tailS {value slice : PySem.Expr} {t1 : Tok} (F : Fr h₀ L s.heap m) (N : News h₀ L s.heap news) (hl : s.heap.IsList D vs.toArray) (hi : StrsAre vs (ls.map S)) (hz : ls.length ≤ 100000) (h1 : 1 ≤ ls.length)
    (h : ∀ D' h' vs', StrsAre vs' ((ls.drop 1).map S) → Fr h₀ L h' m → News h₀ L h' ((D', W.listOf vs'.toArray 0) :: news) → (∀ p ∈ news, p.1 < D') → Q (.ref D') { s with heap := h' })
    (hs : subscripted slice false (.ref D) (.ref s.heap.objs.size) = operate [.ref s.heap.objs.size, .ref D] (getItem (.ref D) (.ref s.heap.objs.size)) := by with_unfolding_all rfl) (ht : ∀ r, letTemporaryGo value (.ref D) r = pure () := by intro _; with_unfolding_all rfl) :
    wpAny (model prog w) A (subscriptTail value slice (.ref D) (.ref s.heap.objs.size)) Q E { s with heap := s.heap.push { cls := .type "slice", data := .fields #[.int 1 t1, .none, .none] } } := by
  have hlen := strs_len hi
  refine kms_slice_lit (lo := some 1) (hi := none) F N hl (.int _ _) .none rfl (fun D' h' F' N' l1 => h D' h' _ ?_ F' N' l1) hs ht (by rw [sizeLine_eq]; simp; omega)
  have e : kms_pick vs.toArray.toList (some 1) none = vs.drop 1 := by
    have a1 : kms_lo (some 1) vs.toArray.toList.length = 1 := by simp [kms_lo]; omega
    have a2 : kms_hi none vs.toArray.toList.length = vs.length := by simp [kms_hi]
    unfold kms_pick
    rw [a1, a2, List.take_of_length_le (by simp)]
  rw [e, List.map_drop]
  exact hi.drop' 1
end
/-! texts, compared -/
section
variable {prog : Program} {w : World} {A : Around} {E : Value → Shared → Prop} {s : Shared} {x y : PySem.Str} {a b : List Nat} {t u : Tok} {Q : Value → Shared → Prop}
theorem ne_S_same (hx : x = S a) (hy : y = S b) (e : a = b) (h : Q (.bool false) s) : wpAny (model prog w) A (compareOp .NotEq (.str x t) (.str y u)) Q E s := by
  subst hx hy e
  refine PyProof.Rows.ne_str ?_
  rw [show (S a != S a) = false by simp]; exact h
theorem eq_S_other (hx : x = S a) (hy : y = S b) (e : a ≠ b) (h : Q (.bool false) s) : wpAny (model prog w) A (compareOp .Eq (.str x t) (.str y u)) Q E s := by
  subst hx hy
  refine PyProof.Rows.eq_str ?_
  rw [show (S a == S b) = false from beq_false_of_ne fun q => e (S_inj.mp q)]; exact h
theorem notIn_S_found (hx : x = S a) (hf : (!(Builtin.Str.occurrences (S a) y 0 (S a).length 1).isEmpty) = true) (h : Q (.bool false) s) : wpAny (model prog w) A (compareOp .NotIn (.str y u) (.str x t)) Q E s := by
  subst hx
  refine PyProof.Rows.notIn_str ?_
  rw [hf]; exact h
end
theorem two_found (u v : List Nat) : (!(Builtin.Str.occurrences (S (u ++ 42 :: 42 :: v)) (PySem.Str.ofString "**") 0 (S (u ++ 42 :: 42 :: v)).length 1).isEmpty) = true := by
  have e : PySem.Str.ofString "**" = S [42, 42] := by decide +kernel
  rw [e]
  refine (StrLaws.found_iff _ _).mpr ⟨u.length, ?_, ?_⟩
  · rw [S_len, S_len]; simp
  · rw [StrLaws.subAt_eq]
    simp [S, PySem.Str.length]
theorem nums_facts {vs : List Value} {ns : List Int} (h : IntsAre vs (List.take 4 ns ++ [9, 42, 20, 35])) : ∃ xs : List Int, IntsAre vs xs ∧ 4 ≤ xs.length ∧ xs.length ≤ 8 ∧ xs.getD (xs.length - 1) 0 = 35 := by
  refine ⟨_, h, ?_, ?_, ?_⟩
  · simp
  · simp; omega
  · have e : (List.take 4 ns ++ [9, 42, 20, 35]).length - 1 = (List.take 4 ns).length + 3 := by simp
    rw [e]
    simp only [List.getD]
    rw [List.getElem?_append_right (by omega)]
    simp
theorem range_size0 (n : Nat) : Builtin.Range.rangeSize 0 (n : Int) 1 = (n : Int) := by
  unfold Builtin.Range.rangeSize
  split <;> split <;> omega
theorem range_small0 (n : Nat) (h1 : n ≤ 100000) : Builtin.Range.small 0 (n : Int) 1 = true :=
  PySem.small_one (by decide) (by decide) (by omega) (by omega)
theorem word_at {xs : List Int} {i : Nat} (h : i < xs.length) (t : Tok) : StrAt (wordsOf xs) i (.str (wordS (rowL (xs.getD (0 + (i : Int)).toNat 0)) (par (0 + (i : Int)))) t) := by
  refine ⟨wordL (rowL (xs.getD i 0)) (par i), t, ?_, ?_⟩
  · simp [wordsOf, h]
  · rw [show (0 + (i : Int)) = (i : Int) by omega, Int.toNat_natCast]
theorem fmod2 (a : Int) : 0 ≤ a.fmod 2 ∧ a.fmod 2 < 2 := by
  rw [Int.fmod_eq_emod_of_nonneg a (by decide)]; omega
theorem strs_one {a : List Nat} {t : Tok} : StrsAre [Value.str (S a) t] ([a].map S) := .cons _ t .nil
/-! the loop's own terms -/
noncomputable def patAt (t : Nat) (xs : List Int) (ws : List (List Nat)) : Nat → List Nat
  | 0 => List.replicate t 42 ++ ws.getD 0 []
  | i + 1 => (patAt t xs ws i ++ List.replicate (stn (xs.getD (i + 1) 0)) 42) ++ ws.getD (i + 1) []
theorem patAt_eq (t : Nat) (xs : List Int) (ws : List (List Nat)) : ∀ i, patAt t xs ws i = jn (rawAt t xs ws i)
  | 0 => (jn_start t xs ws).symm
  | i + 1 => by rw [jn_step, patAt, patAt_eq t xs ws i]
noncomputable def partsAt (t : Nat) (xs : List Int) (ws : List (List Nat)) : Nat → List (List Nat)
  | 0 => List.replicate t [] ++ [lesc (ws.getD 0 [])]
  | i + 1 => (partsAt t xs ws i ++ List.replicate (stn (xs.getD (i + 1) 0) - 1) []) ++ [lesc (ws.getD (i + 1) [])]
theorem partsAt_eq (t : Nat) (xs : List Int) (ws : List (List Nat)) : ∀ i, partsAt t xs ws i = (rawAt t xs ws i).map lesc
  | 0 => by rw [partsAt, rawAt, List.map_append, map_rep]; rfl
  | i + 1 => by rw [parts_step, partsAt, partsAt_eq t xs ws i]
theorem patAt_len {t : Nat} {xs : List Int} (ht : t ≤ 2) {i : Nat} (hi : i ≤ 10) : (patAt t xs (wordsOf xs) i).length ≤ 200 := by
  rw [patAt_eq]
  have h1 := jn_len (rawAt t xs (wordsOf xs) i)
  have h2 := rawAt_sum t xs (wordsOf xs) (fun w hw => (wordsOf_mem hw).2) i
  have h3 := (rawAt_len t xs (wordsOf xs) i).1
  omega
theorem partsAt_len {t : Nat} {xs : List Int} (ht : t ≤ 2) {i : Nat} (hi : i ≤ 10) : (partsAt t xs (wordsOf xs) i).length ≤ 30 := by
  rw [partsAt_eq, List.length_map]
  have h3 := (rawAt_len t xs (wordsOf xs) i).1
  omega
theorem drop_at0 {xs : List Int} {i : Nat} : (List.drop 1 xs).getD i 0 = xs.getD (i + 1) 0 := by
  simp only [List.getD, List.getElem?_drop, Nat.add_comm 1 i]
theorem drop_atW {ws : List (List Nat)} {i : Nat} {a : List Nat} (h : (List.drop 1 ws)[i]? = some a) : a = ws.getD (i + 1) [] ∧ a ∈ ws := by
  rw [List.getElem?_drop, Nat.add_comm 1 i] at h
  exact ⟨by simp [List.getD, h], List.mem_of_getElem? h⟩
theorem off_of {Led own : List (Addr × Obj)} (h : ∀ q ∈ own, ∀ p ∈ Led, p.1 ≠ q.1) : ∀ p ∈ Led, ∀ q ∈ own, p.1 ≠ q.1 := fun p hp q hq => h q hq p hp
theorem full_y1 {PP : List (List Nat)} {i : Nat} {a : List Nat} (ha : PP[i]? = some a) (h : (S a != PySem.Str.ofString "") = true) : fullTo PP (i + 1) = fullTo PP i ++ [a] := by
  rw [bne_S] at h
  have e : PP.getD i [] = a := by simp [List.getD, ha]
  rw [fullTo, e, if_pos (.inl (by simpa using h))]
theorem full_y2 {PP : List (List Nat)} {i : Nat} {a : List Nat} (ha : PP[i]? = some a) (h : ([0, (PP.length : Int) - 1].any fun x => x == (i : Int)) = true) : fullTo PP (i + 1) = fullTo PP i ++ [a] := by
  have e : PP.getD i [] = a := by simp [List.getD, ha]
  have hl := (List.getElem?_eq_some_iff.mp ha).1
  have h' : (0 : Int) = (i : Int) ∨ (PP.length : Int) - 1 = (i : Int) := by simpa using h
  rw [fullTo, e, if_pos (.inr (by rcases h' with h' | h' <;> omega))]
theorem full_n {PP : List (List Nat)} {i : Nat} {a : List Nat} (ha : PP[i]? = some a) (h0 : (S a != PySem.Str.ofString "") = false) (h : ([0, (PP.length : Int) - 1].any fun x => x == (i : Int)) = false) : fullTo PP (i + 1) = fullTo PP i := by
  rw [bne_S] at h0
  have e : PP.getD i [] = a := by simp [List.getD, ha]
  have hl := (List.getElem?_eq_some_iff.mp ha).1
  have h1 : ¬ (0 : Int) = (i : Int) ∧ ¬ (PP.length : Int) - 1 = (i : Int) := by simpa using h
  have h2 : a = [] := by simpa using h0
  rw [fullTo, e, if_neg (by rintro (h | h | h); exact h h2; omega; omega), List.append_nil]
/-! the law's facts, together -/
theorem lesc_le : ∀ l : List Nat, (lesc l).length ≤ 2 * l.length
  | [] => Nat.le_refl _
  | c :: r => by
    have := lesc_le r
    have h1 : (lesc1 c).length ≤ 2 := by unfold lesc1; split <;> simp
    show (lesc1 c ++ lesc r).length ≤ _
    rw [List.length_append, List.length_cons]; omega
theorem lescs_sum : ∀ X : List (List Nat), ((X.map lesc).map List.length).sum ≤ 2 * (X.map List.length).sum
  | [] => Nat.le_refl _
  | a :: r => by have h1 := lescs_sum r; have h2 := lesc_le a; simp only [List.map_cons, List.sum_cons]; omega
theorem fullTo_len (ps : List (List Nat)) : ∀ i, (fullTo ps i).length ≤ i ∧ ((fullTo ps i).map List.length).sum ≤ ((ps.take i).map List.length).sum
  | 0 => by simp [fullTo]
  | i + 1 => by
    obtain ⟨h1, h2⟩ := fullTo_len ps i
    have h3 : ((ps.take (i + 1)).map List.length).sum = ((ps.take i).map List.length).sum + (ps.getD i []).length := by
      rw [List.take_add_one, List.getD]
      cases ps[i]? with
      | none => simp
      | some a => simp
    unfold fullTo
    split
    · simp only [List.length_append, List.length_singleton, List.map_append, List.sum_append, List.map_cons, List.map_nil, List.sum_cons, List.sum_nil]
      omega
    · rw [List.append_nil]; omega
theorem lawText_len (ls : List (List Nat)) : (lawText ls).length ≤ 3 * (ls.map List.length).sum + 7 * ls.length + 2 := by
  have l1 : (lit ".*").length = 2 := by decide +kernel
  have h0 := sum_getD ls 0
  have h1 := sum_getD ls (ls.length - 1)
  have h2 := mids_len ls
  have h3 := flat_len (mids ls)
  unfold lawText
  split
  · simp only [List.length_append]; omega
  · simp only [List.length_append]; omega
structure Pack (t e : Nat) (xs : List Int) (PT : List Nat) (PP : List (List Nat)) : Prop where
  sign : ∀ c ∈ PT, c < 128 ∧ c ≠ 63 ∧ c ≠ 91
  size : PT.length ≤ 1000
  tp : lawText ((stars PT).map esc) = lawText PP
  tr : fin1 (trl PT) = lawText (fullTo PP PP.length)
  part : lawText (fullTo PP PP.length) ≠ lawText PP
  two : (!(Builtin.Str.occurrences (S PT) (PySem.Str.ofString "**") 0 (S PT).length 1).isEmpty) = true
  cut : cutR (trl PT) = wordsOf xs
  n1 : 1 ≤ PP.length
  n2 : PP.length ≤ 1000
  n3 : (PP.map List.length).sum ≤ 20000
  m1 : 1 ≤ (fullTo PP PP.length).length
  m2 : (fullTo PP PP.length).length ≤ 1000
  m3 : ((fullTo PP PP.length).map List.length).sum ≤ 20000
  k1 : (lawText PP).length ≤ 100000
  k2 : (lawText (fullTo PP PP.length)).length ≤ 100000
theorem law_pack {t e : Nat} {xs : List Int} (ht : t ≤ 2) (he : e ≤ 2) (h4 : 4 ≤ xs.length) (h8 : xs.length ≤ 8) (h35 : xs.getD (xs.length - 1) 0 = 35) :
    Pack t e xs (patAt t xs (wordsOf xs) (xs.length - 1) ++ List.replicate e 42) (partsAt t xs (wordsOf xs) (xs.length - 1) ++ List.replicate e []) := by
  obtain ⟨n, hn⟩ : ∃ n, xs.length = n + 2 := ⟨xs.length - 2, by omega⟩
  have hn1 : xs.length - 1 = n + 1 := by omega
  rw [hn1] at h35 ⊢
  have hne := rawAt_ne t xs (wordsOf xs) (n + 1)
  have hPT : patAt t xs (wordsOf xs) (n + 1) ++ List.replicate e 42 = jn (rawAt t xs (wordsOf xs) (n + 1) ++ List.replicate e []) := by rw [patAt_eq, jn_end hne]
  have hPP : partsAt t xs (wordsOf xs) (n + 1) ++ List.replicate e [] = (rawAt t xs (wordsOf xs) (n + 1) ++ List.replicate e []).map lesc := by rw [partsAt_eq, List.map_append, map_rep]
  have hw : ∀ w ∈ wordsOf xs, GoodS w ∧ w.length = 4 := fun w hw => wordsOf_mem hw
  have hg : ∀ p ∈ rawAt t xs (wordsOf xs) (n + 1) ++ List.replicate e [], GoodS p := fun p hp => by
    rcases List.mem_append.mp hp with hp | hp
    · exact rawAt_mem t xs (wordsOf xs) goodS_nil (fun w h => (hw w h).1) _ p hp
    · rw [(List.mem_replicate.mp hp).2]; exact goodS_nil
  have hs := rawAt_sum t xs (wordsOf xs) (fun w h => (hw w h).2) (n + 1)
  obtain ⟨hl1, hl2⟩ := rawAt_len t xs (wordsOf xs) (n + 1)
  have hstn : stn (xs.getD (n + 1) 0) = 2 := by rw [h35]; rfl
  have hraw : rawAt t xs (wordsOf xs) (n + 1) = rawAt t xs (wordsOf xs) n ++ ([] :: [(wordsOf xs).getD (n + 1) []]) := by
    rw [rawAt, hstn]; rfl
  have hne' := rawAt_ne t xs (wordsOf xs) n
  have hfil : (rawAt t xs (wordsOf xs) (n + 1) ++ List.replicate e []).filter (fun t => t != []) = wordsOf xs := by
    rw [List.filter_append, rep_filter, rawAt_filter t xs (wordsOf xs) (fun w h e => by have := (hw w h).2; rw [e] at this; cases this) (n + 1) (by rw [wordsOf_len]; omega), List.append_nil, List.take_of_length_le (by rw [wordsOf_len]; omega)]
  have hsum : ((rawAt t xs (wordsOf xs) (n + 1) ++ List.replicate e []).map List.length).sum ≤ 40 := by
    rw [List.map_append, List.sum_append, rep_sum]; omega
  have hlen : (rawAt t xs (wordsOf xs) (n + 1) ++ List.replicate e []).length ≤ 40 := by
    rw [List.length_append, List.length_replicate]; omega
  have hlen2 : 2 ≤ (rawAt t xs (wordsOf xs) (n + 1) ++ List.replicate e []).length := by
    rw [List.length_append, List.length_replicate]; omega
  rw [hPT, hPP]
  have htwo : ∃ u v, jn (rawAt t xs (wordsOf xs) (n + 1) ++ List.replicate e []) = u ++ 42 :: 42 :: v := by
    refine ⟨jn (rawAt t xs (wordsOf xs) n), jn ([(wordsOf xs).getD (n + 1) []] ++ List.replicate e []), ?_⟩
    rw [hraw, List.append_assoc, List.cons_append, jn_app hne' (by simp), jn_cons (by simp)]; rfl
  have hmid : ∃ a ms z, rawAt t xs (wordsOf xs) (n + 1) ++ List.replicate e [] = a :: (ms ++ [z]) ∧ [] ∈ ms := by
    obtain ⟨a, r, hr⟩ : ∃ a r, rawAt t xs (wordsOf xs) n = a :: r := by
      cases h : rawAt t xs (wordsOf xs) n with
      | nil => exact absurd h hne'
      | cons a r => exact ⟨a, r, rfl⟩
    rw [hraw, hr]
    have hz : ([(wordsOf xs).getD (n + 1) []] ++ List.replicate e ([] : List Nat)) ≠ [] := by simp
    refine ⟨a, r ++ ([] :: ([(wordsOf xs).getD (n + 1) []] ++ List.replicate e ([] : List Nat)).dropLast), ([(wordsOf xs).getD (n + 1) []] ++ List.replicate e ([] : List Nat)).getLast hz, ?_, by simp⟩
    have hq := List.dropLast_concat_getLast hz
    have e1 : ∀ (q d : List (List Nat)) (l : List Nat), d ++ [l] = q → a :: r ++ ([] :: [(wordsOf xs).getD (n + 1) []]) ++ List.replicate e [] = a :: (r ++ ([] :: q)) → a :: r ++ ([] :: [(wordsOf xs).getD (n + 1) []]) ++ List.replicate e [] = a :: ((r ++ ([] :: d)) ++ [l]) := fun q d l h1 h2 => by
      rw [h2, ← h1]; simp
    exact e1 _ _ _ hq (by simp)
  generalize rawAt t xs (wordsOf xs) (n + 1) ++ List.replicate e [] = X at *
  have hX0 : X ≠ [] := fun e => by rw [e] at hlen2; simp at hlen2
  have hPl : (X.map lesc).length = X.length := List.length_map ..
  have hls := lescs_sum X
  obtain ⟨hf1, hf2⟩ := fullTo_len (X.map lesc) (X.map lesc).length
  rw [List.take_length] at hf2
  have hk1 := lawText_len (X.map lesc)
  have hk2 := lawText_len (fullTo (X.map lesc) (X.map lesc).length)
  obtain ⟨u, v, huv⟩ := htwo
  obtain ⟨a, ms, z, hsh, hmem⟩ := hmid
  refine ⟨fun c hc => ?_, ?_, law_tp hg hX0, by rw [hPl]; exact law_full hg hlen2, by rw [hPl]; exact law_part hsh hmem, by rw [huv]; exact two_found u v, by rw [law_cut hg hX0, hfil], by omega, by omega, by omega, ?_, by omega, by omega, by omega, by omega⟩
  · exact jn_mem (P := fun c => c < 128 ∧ c ≠ 63 ∧ c ≠ 91) (by decide) X (fun p hp c hc => ⟨(hg p hp).ascii c hc, (hg p hp).q c hc, (hg p hp).b c hc⟩) c hc
  · have := jn_len X; omega
  · have e2 : X.map lesc = lesc a :: (ms.map lesc ++ [lesc z]) := by rw [hsh]; simp
    rw [e2, fullTo_all]; simp
section
variable {prog : Program} {w : World} {A : Around} {E : Value → Shared → Prop} {s : Shared} {a b D : Addr} {xs ys vs : List Value} {ks ls : List (List Nat)} {rs : List Int} {Q : Value → Shared → Prop}
theorem eq_strs2 (ha : s.heap.IsList a xs.toArray) (hb : s.heap.IsList b ys.toArray) (hx : StrsAre xs (ks.map S)) (hy : StrsAre ys (ls.map S)) (e : ks = ls) (hl : ∀ l ∈ ls, ∀ c ∈ l, c < 128) (hu : A.units + 64 < cLine) (h : Q (.bool true) s) :
    wpAny (model prog w) A (compareOp .Eq (.ref a) (.ref b)) Q E s := by
  subst e; exact eq_strs ha hb hx hy hl hu h
theorem item_words2 {value slice : PySem.Expr} {k : Int} {u : Tok} (hl : s.heap.IsList D vs.toArray) (hi : StrsAre vs (ks.map S)) (e : ks = wordsOf rs) (hz : rs.length ≤ 100000) (h0 : 0 ≤ k) (h1 : k < (rs.length : Int)) (h : ∀ t, Q (.str (wordS (rowL (rs.getD k.toNat 0)) (par k)) t) s)
    (hs : subscripted slice false (.ref D) (.int k u) = operate [.ref D, .int k u] (getItem (.ref D) (.int k u)) := by with_unfolding_all rfl) (hg : ∀ r, letTemporaryGo value (.ref D) r = pure () := by intro _; with_unfolding_all rfl) :
    wpAny (model prog w) A (subscriptTail value slice (.ref D) (.int k u)) Q E s := by
  subst e; exact item_words hl hi hz h0 h1 h hs hg
theorem len_words (hl : s.heap.IsList D vs.toArray) (hi : StrsAre vs (ks.map S)) (e : ks = wordsOf rs) (hz : rs.length ≤ 100000) (h : ∀ t k, Q (.int (rs.length : Int) t) { s with toks := k }) : wpAny (model prog w) A (call (.builtin "len") [.ref D]) Q E s := by
  subst e
  refine len_SL hl hi (by rw [wordsOf_len]; exact hz) ?_
  rw [wordsOf_len]; exact h
end
theorem row_at {xs : List Int} {i : Nat} (h : i < xs.length) (t : Tok) : RowAt xs i (.bytes (byteArr (rowL (xs.getD (0 + (i : Int)).toNat 0))) t) :=
  ⟨h, t, by rw [show (0 + (i : Int)) = (i : Int) by omega, Int.toNat_natCast]⟩
end
section
theorem kz_body : True := by
  k_with_none
  k_with "mine:room" => (first | exact Room.lt (by assumption) | exact Room.lt (Room.deep (k := 1) (e := 0) (by assumption) (by decide)) | exact Room.lt (Room.deep (k := 1) (e := 0) (Room.deep (k := 1) (e := 1) (by assumption) (by decide)) (by decide)) | exact Room.deep (by assumption) (by decide) | ((with_reducible show Room _ _); unfold Room; decide) | ((with_reducible show Room _ _); unfold Room; simp only [depth_under_make, depth_under_kw, depth_in1, depth_deeper, depth_caller]; decide))
  k_with "mine:units" => (first | exact Units.deep (by assumption) (by decide) | exact Units.deep2 (by assumption) (by decide) | ((with_reducible show Units _ _); unfold Units; ktr_units))
  k_with "mine:all1" => (first | exact fnil | (refine fcons (by with_unfolding_all rfl) ?_; walk_at "mine:all1"))
  k_with "mine:allin" => (first | exact fnil | (refine fcons (by k_memK) ?_; walk_at "mine:allin") | (intro p9 h9; kst_mem))
  k_with "mine:all" => (first | exact fnil | (refine' fcons ?mqfa ?mqfb; (case mqfa => k_ne); (case mqfb => walk_at "mine:all")))
  k_with "mine:cell" => (first
  | (refine' callP ?mqk1 ?mqk2 ?mqk3 ?mqk5 ?mqkA ?mqkF ?mqkK ?mqk6 ?mqk7 ?mqk8 ?mqk9 ?mqkB ?_ ?mqc2 ?mqc3 ?mqc4 ?mqc5; (case mqkA => exact rfl); (case mqkF => exact rfl); (case mqkK => assumption); (case mqk1 => k_asm); (case mqk2 => k_asm); (case mqk3 => k_asm); (case mqk5 => k_asm); (case mqk6 => k_is); (case mqk7 => k_is); (case mqk8 => ktr_room); (case mqk9 => first | exact BindsTo.of_eq rfl | exact binds_K (by k_in) rfl (by k_is) rfl rfl rfl); (case mqc5 => decide); (case mqkB => exact locs rfl); (case mqc2 => exact rfl); (case mqc3 => exact rfl); (case mqc4 => exact rfl); k_whole; intro _ _ _ _ _ _ _ _ _ _; walk_at "mine:let"; (try dsimp only); (try k_fold); (try walk_at "mine:env"))
  | (refine' callPC ?mqk1 ?mqk2 ?mqk3 ?mqk5 ?mqkA ?mqkF ?mqkK ?mqk6 ?mqk7 ?mqk8 ?mqk9 ?mqkB ?mqkD ?_ ?mqc2 ?mqc3 ?mqc4; (case mqkA => exact rfl); (case mqkF => exact rfl); (case mqkK => assumption); (case mqk1 => k_asm); (case mqk2 => k_asm); (case mqk3 => k_asm); (case mqk5 => k_asm); (case mqk6 => k_is); (case mqk7 => k_is); (case mqk8 => ktr_room); (case mqk9 => first | exact BindsTo.of_eq rfl | exact binds_K (by k_in) rfl (by k_is) rfl rfl rfl); (case mqkB => exact rfl); (case mqkD => decide +kernel); (case mqc2 => exact rfl); (case mqc3 => exact rfl); (case mqc4 => exact rfl); k_whole; intro _ _ _ _ _ _ _ _ N' Y' _ _ _; walk_at "mine:let"; k_cells Y'; (try simp only [List.cons_append, List.nil_append] at N'); (try (revert N'; intro _)); (try dsimp only); (try k_fold); (try walk_at "mine:env")))
  k_with "call type:bytes" => (k_here; (with_reducible show wpAny _ _ (call (Value.type "bytes") [Value.ref _]) _ _ _); k_dflt (refine' KBa.make_K ?mqkbaF ?mqkbaN ?mqkbah ?mqkbal ?mqkbai ?mqkbar ?mqkban ?_; (case mqkbaF => k_asm); (case mqkbaN => k_asm); (case mqkbah => rfl); (case mqkbal => exact News.isList (by k_asm) (by k_mem)); (case mqkbai => first | exact IntsAre.cons _ _ (IntsAre.cons _ _ (IntsAre.cons _ _ (IntsAre.cons _ _ IntsAre.nil))) | exact IntsAre.cons _ _ (IntsAre.cons _ _ IntsAre.nil) | exact IntsAre.cons _ _ IntsAre.nil); (case mqkbar => (repeat (first | exact fnil | refine fcons ⟨by omega, by omega⟩ ?_))); (case mqkban => exact Nat.le_of_ble_eq_true rfl); k_whole); intro _ _ _ _ _ _)
  k_with "call type:list" => (k_here; (with_reducible show wpAny _ _ (call (Value.type "list") [Value.bytes _ _]) _ _ _); first
  | (k_dflt (refine' list_bytes1 ?mqk1 ?mqk2 ?mqk3 ?mqk4 ?_; (case mqk1 => k_asm); (case mqk2 => k_asm); (case mqk3 => rfl); (case mqk4 => assumption)); intro _ _ _ _ _ _ _ l1; (try k_lt l1); (try (revert l1; intro _)))
  | (k_dflt (refine' list_bytes2 ?mqk1 ?mqk2 ?mqk3 ?mqk4 ?_; (case mqk1 => k_asm); (case mqk2 => k_asm); (case mqk3 => rfl); (case mqk4 => assumption)); intro _ _ _ _ _ _ _ _ l1; (try k_lt l1); (try (revert l1; intro _))))
  k_with "exec For Name BinOp cons nil" => (k_here; (with_unfolding_all refine' For_invVF ?mqkF ?mqk1 ?mqk2 ?_; (case mqkF => k_asm); (case mqk1 => exact rfl); (case mqk2 => exact rfl); k_whole))
  k_with "mine:env" => ((show (let AA := _; let EE := _; wpAny _ AA (execs _ EE) _ _ _)); intro AA EE)
  k_with "mine:let" => ((rename Fr _ _ _ _ => lF'); refine fr_let lF' ?_; clear lF'; intro _ _)
  k_with "storeName" => (k_here; k_dflt (refine' storeM ?mqF ?mqN ?_ ?mqhk ?mqhx; (case mqF => k_asm); (case mqN => k_asm); (case mqhk => exact rfl); (case mqhx => exact rfl); k_whole); intro _ _ _ _ _; (try k_sweep))
  k_with "mine:turn" => (walk_at "mine:let"; (show wpAny _ _ _ _ _ _); k_fold)
  k_with "mine:led" => (intro p hp; revert p; repeat (first | exact fnil | refine fcons rfl ?_))
  k_with "mine:same" => ((try dsimp (config := { zetaDelta := true }) only); ksw_same)
  k_with "mine:used" => (intro _ _ _ _ _ _ r9; (obtain ⟨_, e9⟩ := r9); subst e9; (try dsimp only); (try k_fold))
  k_with "mine:usedN" => (intro _ _ _ _ _ _ _ _ _ _; (try dsimp only); (try k_fold))
  k_with "mine:forG" => (k_dflt (refine' For_G ?mqkF ?_; (case mqkF => k_asm)))
  k_with "mine:forT" => (k_dflt (refine' For_T ?mqkF ?_; (case mqkF => k_asm)))
  k_with "call type:type" => (k_here; (with_reducible show wpAny _ _ (call _ [Value.bytes _ _]) _ _ _); refine call_type_of (Tx := "bytes") rfl (by decide +kernel) ?_)
  k_with "pyIter bytes" => ((with_reducible show wpAny _ _ (pyIter (Value.bytes _ _)) (fun it s₂ => LoopAtV _ _ _ _ _ _ _ _ _ it s₂) _ _); k_here; k_bytesUnr)
  k_with "subscriptTail" => (k_here; (with_reducible show wpAny _ _ (subscriptTail (Expr.Name "_B64" _) _ (Value.bytes _ _) (Value.int _ _)) _ _ _); with_unfolding_all refine' b64_item ?mqh0 ?mqh1 (fun _ _ _ _ => ?_) ?mqhs ?mqht; (case mqh0 => first | assumption | exact Nat.le_trans (by assumption) (by decide) | omega); (case mqh1 => first | assumption | exact Nat.le_trans (by assumption) (by decide) | omega); (case mqhs => with_unfolding_all rfl); (case mqht => intro _; with_unfolding_all rfl))
  k_with "binaryOp RShift int int" => (k_here; first
  | (refine' rsh2 ?mqhn ?_; (case mqhn => first | assumption | exact Nat.le_trans (by assumption) (by decide) | omega))
  | (refine' rsh4 ?mqhn ?_; (case mqhn => first | assumption | exact Nat.le_trans (by assumption) (by decide) | omega)))
  k_with "binaryOp LShift int int" => (k_here; first
  | (refine' lsh_ 8 256 ?mqhn ?mqhk ?mqhP ?mqh0 ?mqh1 ?_; (case mqhn => decide); (case mqhk => decide); (case mqhP => decide); (case mqh0 => first | assumption | exact Nat.le_trans (by assumption) (by decide) | omega); (case mqh1 => first | assumption | exact Nat.le_trans (by assumption) (by decide) | omega))
  | (refine' lsh_ 6 64 ?mqhn ?mqhk ?mqhP ?mqh0 ?mqh1 ?_; (case mqhn => decide); (case mqhk => decide); (case mqhP => decide); (case mqh0 => first | assumption | exact Nat.le_trans (by assumption) (by decide) | omega); (case mqh1 => first | assumption | exact Nat.le_trans (by assumption) (by decide) | omega))
  | (refine' lsh_ 4 16 ?mqhn ?mqhk ?mqhP ?mqh0 ?mqh1 ?_; (case mqhn => decide); (case mqhk => decide); (case mqhP => decide); (case mqh0 => first | assumption | exact Nat.le_trans (by assumption) (by decide) | omega); (case mqh1 => first | assumption | exact Nat.le_trans (by assumption) (by decide) | omega))
  | (refine' lsh_ 2 4 ?mqhn ?mqhk ?mqhP ?mqh0 ?mqh1 ?_; (case mqhn => decide); (case mqhk => decide); (case mqhP => decide); (case mqh0 => first | assumption | exact Nat.le_trans (by assumption) (by decide) | omega); (case mqh1 => first | assumption | exact Nat.le_trans (by assumption) (by decide) | omega)))
  k_with "binaryOp BitOr int int" => (k_here; first
  | (refine' or_ 8 256 ?mqhP ?mqh0 ?mqh1 ?mqh2 ?_; (case mqhP => decide); (case mqh0 => first | assumption | exact Nat.le_trans (by assumption) (by decide) | omega); (case mqh1 => first | assumption | exact Nat.le_trans (by assumption) (by decide) | omega); (case mqh2 => first | assumption | exact Nat.le_trans (by assumption) (by decide) | omega))
  | (refine' or_ 6 64 ?mqhP ?mqh0 ?mqh1 ?mqh2 ?_; (case mqhP => decide); (case mqh0 => first | assumption | exact Nat.le_trans (by assumption) (by decide) | omega); (case mqh1 => first | assumption | exact Nat.le_trans (by assumption) (by decide) | omega); (case mqh2 => first | assumption | exact Nat.le_trans (by assumption) (by decide) | omega))
  | (refine' or_ 4 16 ?mqhP ?mqh0 ?mqh1 ?mqh2 ?_; (case mqhP => decide); (case mqh0 => first | assumption | exact Nat.le_trans (by assumption) (by decide) | omega); (case mqh1 => first | assumption | exact Nat.le_trans (by assumption) (by decide) | omega); (case mqh2 => first | assumption | exact Nat.le_trans (by assumption) (by decide) | omega))
  | (refine' or_ 2 4 ?mqhP ?mqh0 ?mqh1 ?mqh2 ?_; (case mqhP => decide); (case mqh0 => first | assumption | exact Nat.le_trans (by assumption) (by decide) | omega); (case mqh1 => first | assumption | exact Nat.le_trans (by assumption) (by decide) | omega); (case mqh2 => first | assumption | exact Nat.le_trans (by assumption) (by decide) | omega)))
  k_with "binaryOp BitAnd int int" => (k_here; first
  | refine and65535 ?_
  | refine and63 ?_
  | refine and15 ?_
  | refine and3 ?_)
  k_with "getMethod bytes" => (k_here; (with_reducible refine method_translate ?_))
  k_with "call builtin:bytes.translate" => (k_here; first
  | (refine' call_urlenc ?mqh1 ?mqh2 (fun _ _ => ?_); (case mqh1 => assumption); (case mqh2 => first | kernel_rfl | decide +kernel))
  | (refine' call_urldec ?mqh1 ?mqh2 (fun _ _ => ?_); (case mqh1 => assumption); (case mqh2 => first | kernel_rfl | decide +kernel)))
  k_with "call type:str" => (k_here; (with_reducible show wpAny _ _ (call (Value.type "str") [Value.bytes _ _, Value.str _ _]) _ _ _); first
  | (refine' call_strword0 ?mqh1 (fun _ _ => ?_); (case mqh1 => assumption))
  | (refine' call_strword ?mqh1 (fun _ _ => ?_); (case mqh1 => assumption)))
  k_with "getMethod str" => (k_here; first | with_reducible refine m_encode ?_ | with_reducible refine m_translate ?_)
  k_with "call builtin:str.encode" => (k_here; refine' call_encword ?mqh1 (fun _ _ => ?_); (case mqh1 => assumption))
  k_with "binaryOp Add str str" => (k_here; refine' add_SS ?mqhx ?mqhy ?mqhsz (fun _ _ => ?_); (case mqhx => first | rfl | exact ofS _ | exact S_of _); (case mqhy => first | rfl | exact ofS _ | exact S_of _); (case mqhsz => ((try simp only [List.length_append, List.length_cons, List.length_nil, List.length_replicate]); omega)))
  k_with "binaryOp Mult str int" => (k_here; refine' mul_S ?mqhx ?mqh0 ?mqh1 (fun _ _ => ?_); (case mqhx => exact ofS _); (case mqh0 => first | assumption | exact Nat.le_trans (by assumption) (by decide) | omega); (case mqh1 => first | assumption | exact Nat.le_trans (by assumption) (by decide) | omega))
  k_with "subscriptTail" => (k_here; (with_reducible show wpAny _ _ (subscriptTail _ _ (Value.str _ _) (Value.int _ _)) _ _ _); with_unfolding_all refine' item_S ?mqhx ?mqh0 ?mqh1 ?mqh2 (fun _ _ => ?_) ?mqhs ?mqht; (case mqhx => first | rfl | exact ofS _ | exact S_of _); (case mqh0 => ktr_rel); (case mqh1 => ktr_rel); (case mqh2 => ktr_rel); (case mqhs => with_unfolding_all rfl); (case mqht => intro _; with_unfolding_all rfl))
  k_with "eval Constant int" => (with_reducible refine const_i ?_)
  k_with "binaryOp Add int int" => (with_reducible refine add_i ?_)
  k_with "binaryOp Sub int int" => (with_reducible refine sub_i ?_)
  trivial
set_option maxHeartbeats 80000000
inductive Seg : Nat → Prop
  | mk (n : Nat) : Seg n
open LCg LCt
theorem kw_Jx116 : True := by
  k_with "eval ListComp" => (k_here; (with_reducible show wpAny _ _ (eval (PySem.Expr.ListComp _ [⟨PySem.Expr.Name _ _, _, [], 0⟩] _ _) _) _ _ _); k_dflt (refine ListComp_G (_F₀ := by k_asm) (by with_unfolding_all rfl) (by decide) (by rfl) (by decide) (by rfl) ?_))
  trivial
theorem kw_Jx117 : True := by
  k_with "exec Assign cons ListComp" => (k_here; (with_reducible show wpAny _ _ (exec (Stmt.Assign [PySem.Expr.Name (PySem.Str.ofString "words") _] _ _) _) _ _ _); (k_dflt (refine' Assign_ListComp_G (_F₀ := by k_asm) (by rfl) ?mqhsw ?mqhclos ?mqhcell ?mqhkind ?mqhnames ?mqhx ?mqhy ?mqhp ?_; (case mqhsw => with_unfolding_all rfl); (case mqhclos => with_unfolding_all rfl); (case mqhcell => decide); (case mqhkind => rfl); (case mqhnames => decide); (case mqhx => rfl); (case mqhy => rfl); (case mqhp => rfl))))
  trivial
theorem kw_Jx118 : True := by
  k_with "exec Assign cons ListComp" => (k_here; (with_reducible show wpAny _ _ (exec (Stmt.Assign [PySem.Expr.Name (PySem.Str.ofString "full") _] _ _) _) _ _ _); (k_dflt (refine' Assign_ListComp_E (_F₀ := by k_asm) ?mqhsw ?mqhclos ?mqhkind ?mqhnames ?_; (case mqhsw => with_unfolding_all rfl); (case mqhclos => with_unfolding_all rfl); (case mqhkind => rfl); (case mqhnames => decide))))
  trivial
theorem kw_Jx119 : True := by
  k_with "call builtin:len" => (k_here; refine halt ?_)
  trivial
theorem kw_Jx120 : True := by
  k_with "call builtin:len" => (k_here; k_dflt (refine' len_rows ?mqhl ?mqhi ?mqhz (fun _ _ => ?_); (case mqhl => kmk_list); (case mqhi => assumption); (case mqhz => first | assumption | exact Nat.le_trans (by assumption) (by decide) | omega)))
  trivial
theorem kw_Jx121 : True := by
  k_with "compareOp NotEq ref ref" => (k_here; k_dflt (refine' ne_strs ?mqa ?mqb ?mqx ?mqy ?mql ?mqu ?_; (case mqa => kmk_list); (case mqb => kmk_list); (case mqx => assumption); (case mqy => assumption); (case mql => assumption); (case mqu => units_room)))
  trivial
local macro_rules | `(tactic| k_ne) => `(tactic| (refine neN ?_; (try dsimp only); first | assumption | exact Ne.symm (by assumption) | omega))

theorem kw_j14 : True := by
  k_with "call ref" => ((have q : Seg 1 := by assumption); (clear q); k_here; (with_reducible show wpAny _ _ (call (Value.ref 183) _ _) _ _ _); k_dflt (refine' Spec.use (c_octets _ _ _) ?mqk1 ?mqk2 ?mqk3 ?mqk4 ?mqk5 ?mqkK ?mqkd ?mqku ?mqkp ?_; (case mqk1 => k_asm); (case mqk2 => k_asm); (case mqk3 => k_asm); (case mqk4 => k_asm); (case mqk5 => k_asm); (case mqkK => first | exact rfl | assumption); (case mqkd => ktr_room); (case mqku => ktr_units); (case mqkp => exact trivial)); walk_at "mine:used")
  trivial

theorem kw_j15 : True := by
  k_with "call ref" => ((have q : Seg 2 := by assumption); (clear q); k_here; (with_reducible show wpAny _ _ (call (Value.ref 190) _ _) _ _ _); k_dflt (refine' Spec.use (c_written _ _ (rowL_mem _) _ _ _) ?mqk1 ?mqk2 ?mqk3 ?mqk4 ?mqk5 ?mqkK ?mqkd ?mqku ?mqkp ?_; (case mqk1 => k_asm); (case mqk2 => k_asm); (case mqk3 => k_asm); (case mqk4 => k_asm); (case mqk5 => k_asm); (case mqkK => first | exact rfl | assumption); (case mqkd => ktr_room); (case mqku => ktr_units); (case mqkp => exact trivial)); walk_at "mine:used")
  trivial

theorem kw_Jx122 : True := by
  k_with "subscriptTail" => ((have q : Seg 2 := by assumption); (clear q); k_here; (with_reducible show wpAny _ _ (subscriptTail _ _ (Value.ref _) (Value.int _ _)) _ _ _); k_dflt (refine' item_rows ?mqhl ?mqhi ?mqhz ?mqh0 ?mqh1 (fun _ => ?_) ?mqhs ?mqht; (case mqhl => kmk_list); (case mqhi => assumption); (case mqhz => first | assumption | exact Nat.le_trans (by assumption) (by decide) | omega); (case mqh0 => first | assumption | exact Nat.le_trans (by assumption) (by decide) | omega); (case mqh1 => first | assumption | exact Nat.le_trans (by assumption) (by decide) | omega); (case mqhs => with_unfolding_all rfl); (case mqht => intro _; with_unfolding_all rfl)))
  trivial
theorem kw_Jx123 : True := by
  k_with "subscriptTail" => ((have q : Seg 3 := by assumption); (clear q); k_here; (with_reducible show wpAny _ _ (subscriptTail _ _ (Value.ref _) (Value.int _ _)) _ _ _); k_dflt (refine' item_rows ?mqhl ?mqhi ?mqhz ?mqh0 ?mqh1 (fun _ => ?_) ?mqhs ?mqht; (case mqhl => kmk_list); (case mqhi => assumption); (case mqhz => first | assumption | exact Nat.le_trans (by assumption) (by decide) | omega); (case mqh0 => first | assumption | exact Nat.le_trans (by assumption) (by decide) | omega); (case mqh1 => first | assumption | exact Nat.le_trans (by assumption) (by decide) | omega); (case mqhs => with_unfolding_all rfl); (case mqht => intro _; with_unfolding_all rfl)))
  trivial
theorem kw_Jx124 : True := by
  k_with "subscriptTail" => ((have q : Seg 3 := by assumption); (clear q); k_here; (with_reducible show wpAny _ _ (subscriptTail (PySem.Expr.List _ _) _ (Value.ref _) (Value.int _ _)) _ _ _); k_dflt (refine' item_two ?mqhl (fun _ => ?_) ?mqhs; (case mqhl => kmk_list); (case mqhs => with_unfolding_all rfl)))
  trivial
theorem kw_j16 : True := by
  k_with "call ref" => ((have q : Seg 3 := by assumption); (clear q); k_here; (with_reducible show wpAny _ _ (call (Value.ref 195) _ _) _ _ _); k_dflt (refine' Spec.use (c_six _ _ (rowL_mem _) _ _ _) ?mqk1 ?mqk2 ?mqk3 ?mqk4 ?mqk5 ?mqkK ?mqkd ?mqku ?mqkp ?_; (case mqk1 => k_asm); (case mqk2 => k_asm); (case mqk3 => k_asm); (case mqk4 => k_asm); (case mqk5 => k_asm); (case mqkK => first | exact rfl | assumption); (case mqkd => ktr_room); (case mqku => ktr_units); (case mqkp => exact trivial)); walk_at "mine:used")
  trivial

theorem kw_Jx125 : True := by
  k_with "eval Tuple" => ((have q : Seg 3 := by assumption); (clear q); k_here; refine halt ?_)
  trivial
theorem kw_Jx126 : True := by
  k_with "binaryOp Mult str int" => ((have q : Seg 4 := by assumption); (clear q); k_here; refine' mul_S (c := 42) ?mqhx ?mqh0 ?mqh1 (fun _ _ => ?_); (case mqhx => exact s42); (case mqh0 => first | assumption | exact Nat.le_trans (by assumption) (by decide) | omega); (case mqh1 => first | assumption | exact Nat.le_trans (by assumption) (by decide) | omega))
  trivial
theorem kw_Jx127 : True := by
  k_with "subscriptTail" => ((have q : Seg 4 := by assumption); (clear q); k_here; (with_reducible show wpAny _ _ (subscriptTail _ _ (Value.ref _) (Value.int _ _)) _ _ _); k_dflt (refine' item_SL ?mqhl ?mqhi ?mqhz ?mqh0 ?mqh1 (fun _ => ?_) ?mqhs ?mqht; (case mqhl => kmk_list); (case mqhi => assumption); (case mqhz => first | assumption | exact Nat.le_trans (by assumption) (by decide) | omega); (case mqh0 => first | assumption | exact Nat.le_trans (by assumption) (by decide) | omega); (case mqh1 => first | assumption | exact Nat.le_trans (by assumption) (by decide) | omega); (case mqhs => with_unfolding_all rfl); (case mqht => intro _; with_unfolding_all rfl)))
  trivial
theorem kw_Jx128 : True := by
  k_with "binaryOp Mult ref int" => ((have q : Seg 4 := by assumption); (clear q); k_here; k_dflt (refine' mul_SL ?mqF ?mqN ?mqa ?mqh0 ?mqh1 ?_; (case mqF => k_asm); (case mqN => k_asm); (case mqa => kmk_list); (case mqh0 => first | assumption | exact Nat.le_trans (by assumption) (by decide) | omega); (case mqh1 => first | assumption | exact Nat.le_trans (by assumption) (by decide) | omega)); intro _ _ _ _ _ _ l1; (try k_lt l1); (try (revert l1; intro _)))
  trivial
theorem kw_Jx129 : True := by
  k_with "binaryOp Add ref ref" => ((have q : Seg 4 := by assumption); (clear q); k_here; k_dflt (refine' add_SL ?mqF ?mqN ?mqa ?mqb ?mqi ?mqj ?mqz ?_; (case mqF => k_asm); (case mqN => k_asm); (case mqa => kmk_list); (case mqb => kmk_list); (case mqi => first | assumption | exact strs_one); (case mqj => first | assumption | exact strs_one); (case mqz => ((try simp only [List.length_append, List.length_replicate, List.length_map, List.length_cons, List.length_nil]); omega))); intro _ _ _ _ _ _ l1; (try k_lt l1); (try (revert l1; intro _)))
  trivial
theorem kw_Jx130 : True := by
  k_with "exec For Tuple Call cons nil" => ((have q : Seg 4 := by assumption); (clear q); k_here; walk_at "mine:forT")
  trivial
theorem kw_Jx131 : True := by
  k_with "subscriptTail Name Slice ref ref" => ((have q : Seg 4 := by assumption); (clear q); k_here; k_dflt (refine' slice_tailS ?mqF ?mqN ?mqhl ?mqhi ?mqhz ?mqh1 (fun _ _ _ _ _ _ l1 => ?_) ?mqhs ?mqht; (case mqF => k_asm); (case mqN => k_asm); (case mqhl => kmk_list); (case mqhi => assumption); (case mqhz => first | assumption | exact Nat.le_trans (by assumption) (by decide) | omega); (case mqh1 => first | assumption | exact Nat.le_trans (by assumption) (by decide) | omega); (case mqhs => with_unfolding_all rfl); (case mqht => kmk_pure)); (try k_lt l1); (try (revert l1; intro _)))
  trivial
theorem kw_Jx132 : True := by
  k_with "call type:zip" => ((have q : Seg 4 := by assumption); (clear q); k_here; refine halt ?_)
  trivial
theorem kw_j17 : True := by
  k_with "call ref" => ((have q : Seg 4 := by assumption); (clear q); k_here; (with_reducible show wpAny _ _ (call (Value.ref 207) _ _) _ _ _); k_dflt (refine' Spec.use (c_lesc _ _ (by assumption) (by assumption) _) ?mqk1 ?mqk2 ?mqk3 ?mqk4 ?mqk5 ?mqkK ?mqkd ?mqku ?mqkp ?_; (case mqk1 => k_asm); (case mqk2 => k_asm); (case mqk3 => k_asm); (case mqk4 => k_asm); (case mqk5 => k_asm); (case mqkK => first | exact rfl | assumption); (case mqkd => ktr_room); (case mqku => ktr_units); (case mqkp => exact trivial)); walk_at "mine:used")
  trivial

theorem kw_Jx133 : True := by
  k_with "binaryOp Mult str int" => ((have q : Seg 5 := by assumption); (clear q); k_here; refine' mul_S (c := 42) ?mqhx ?mqh0 ?mqh1 (fun _ _ => ?_); (case mqhx => exact s42); (case mqh0 => first | assumption | exact Nat.le_trans (by assumption) (by decide) | omega); (case mqh1 => first | assumption | exact Nat.le_trans (by assumption) (by decide) | omega))
  trivial
theorem kw_Jx134 : True := by
  k_with "binaryOp Mult ref int" => ((have q : Seg 5 := by assumption); (clear q); k_here; k_dflt (refine' mul_SL ?mqF ?mqN ?mqa ?mqh0 ?mqh1 ?_; (case mqF => k_asm); (case mqN => k_asm); (case mqa => kmk_list); (case mqh0 => first | assumption | exact Nat.le_trans (by assumption) (by decide) | omega); (case mqh1 => first | assumption | exact Nat.le_trans (by assumption) (by decide) | omega)); intro _ _ _ _ _ _ l1; (try k_lt l1); (try (revert l1; intro _)))
  trivial
theorem kw_Jx135 : True := by
  k_with "binaryOp Add ref ref" => ((have q : Seg 5 := by assumption); (clear q); k_here; k_dflt (refine' add_SL ?mqF ?mqN ?mqa ?mqb ?mqi ?mqj ?mqz ?_; (case mqF => k_asm); (case mqN => k_asm); (case mqa => kmk_list); (case mqb => kmk_list); (case mqi => first | assumption | exact strs_one); (case mqj => first | assumption | exact strs_one); (case mqz => ((try simp only [List.length_append, List.length_replicate, List.length_map, List.length_cons, List.length_nil]); omega))); intro _ _ _ _ _ _ l1; (try k_lt l1); (try (revert l1; intro _)))
  trivial
theorem kw_Jx136 : True := by
  k_with "compareOp Eq int int" => ((have q : Seg 5 := by assumption); (clear q); k_here; first | (refine' eqi_t ?mqh ?_; (case mqh => assumption)) | (refine' eqi_f ?mqh ?_; (case mqh => assumption)))
  trivial
theorem kw_Jx137 : True := by
  k_with "call type:enumerate" => ((have q : Seg 5 := by assumption); (clear q); k_here; refine halt ?_)
  trivial
theorem kw_j18 : True := by
  k_with "call ref" => ((have q : Seg 5 := by assumption); (clear q); k_here; (with_reducible show wpAny _ _ (call (Value.ref 207) _ _) _ _ _); k_dflt (refine' Spec.use (c_lesc _ _ (by assumption) (by assumption) _) ?mqk1 ?mqk2 ?mqk3 ?mqk4 ?mqk5 ?mqkK ?mqkd ?mqku ?mqkp ?_; (case mqk1 => k_asm); (case mqk2 => k_asm); (case mqk3 => k_asm); (case mqk4 => k_asm); (case mqk5 => k_asm); (case mqkK => first | exact rfl | assumption); (case mqkd => ktr_room); (case mqku => ktr_units); (case mqkp => exact trivial)); walk_at "mine:used")
  trivial

theorem kw_Jx138 : True := by
  k_with "binaryOp Mult str int" => ((have q : Seg 6 := by assumption); (clear q); k_here; refine' mul_S (c := 42) ?mqhx ?mqh0 ?mqh1 (fun _ _ => ?_); (case mqhx => exact s42); (case mqh0 => first | assumption | exact Nat.le_trans (by assumption) (by decide) | omega); (case mqh1 => first | assumption | exact Nat.le_trans (by assumption) (by decide) | omega))
  trivial
theorem kw_Jx139 : True := by
  k_with "binaryOp Mult ref int" => ((have q : Seg 6 := by assumption); (clear q); k_here; k_dflt (refine' mul_SL ?mqF ?mqN ?mqa ?mqh0 ?mqh1 ?_; (case mqF => k_asm); (case mqN => k_asm); (case mqa => kmk_list); (case mqh0 => first | assumption | exact Nat.le_trans (by assumption) (by decide) | omega); (case mqh1 => first | assumption | exact Nat.le_trans (by assumption) (by decide) | omega)); intro _ _ _ _ _ _ l1; (try k_lt l1); (try (revert l1; intro _)))
  trivial
theorem kw_Jx140 : True := by
  k_with "binaryOp Add ref ref" => ((have q : Seg 6 := by assumption); (clear q); k_here; k_dflt (refine' add_SL ?mqF ?mqN ?mqa ?mqb ?mqi ?mqj ?mqz ?_; (case mqF => k_asm); (case mqN => k_asm); (case mqa => kmk_list); (case mqb => kmk_list); (case mqi => first | assumption | exact strs_one); (case mqj => first | assumption | exact strs_one); (case mqz => ((try simp only [List.length_append, List.length_replicate, List.length_map, List.length_cons, List.length_nil]); omega))); intro _ _ _ _ _ _ l1; (try k_lt l1); (try (revert l1; intro _)))
  trivial
theorem kw_Jx141 : True := by
  k_with "call type:enumerate" => ((have q : Seg 6 := by assumption); (clear q); k_here; refine halt ?_)
  trivial
theorem kw_Jx142 : True := by
  k_with "call builtin:len" => ((have q : Seg 7 := by assumption); (clear q); k_here; k_dflt (refine' len_SL ?mqhl ?mqhi ?mqhz (fun _ _ => ?_); (case mqhl => kmk_list); (case mqhi => assumption); (case mqhz => first | assumption | exact Nat.le_trans (by assumption) (by decide) | omega)))
  trivial
theorem kw_Jx143 : True := by
  k_with "compareOp NotEq str str" => ((have q : Seg 8 := by assumption); (clear q); k_here; refine' ne_S_same ?mqhx ?mqhy ?mqe ?_; (case mqhx => first | rfl | exact ofS _); (case mqhy => first | rfl | exact ofS _); (case mqe => assumption))
  trivial
theorem kw_Jx144 : True := by
  k_with "compareOp Eq str str" => ((have q : Seg 8 := by assumption); (clear q); k_here; refine' eq_S_other ?mqhx ?mqhy ?mqe ?_; (case mqhx => first | rfl | exact ofS _); (case mqhy => first | rfl | exact ofS _); (case mqe => assumption))
  trivial
theorem kw_Jx145 : True := by
  k_with "compareOp NotIn str str" => ((have q : Seg 8 := by assumption); (clear q); k_here; refine' notIn_S_found ?mqhx ?mqhf ?_; (case mqhx => rfl); (case mqhf => assumption))
  trivial
theorem kw_Jx146 : True := by
  k_with "exec For Name Name cons nil" => ((have q : Seg 8 := by assumption); (clear q); k_here; walk_at "mine:forG")
  trivial
theorem kw_Jx147 : True := by
  k_with "call ref" => ((have q : Seg 8 := by assumption); (clear q); k_here; (with_reducible show wpAny _ _ (call (Value.ref 212) _ _) _ _ _); refine halt ?_)
  trivial
theorem kw_j19 : True := by
  k_with "call ref" => ((have q : Seg 8 := by assumption); (clear q); k_here; (with_reducible show wpAny _ _ (call (Value.ref 57) _ _) _ _ _); k_dflt (refine' Spec.use (c_tp _ _ (by assumption) (by assumption) _) ?mqk1 ?mqk2 ?mqk3 ?mqk4 ?mqk5 ?mqkK ?mqkd ?mqku ?mqkp ?_; (case mqk1 => k_asm); (case mqk2 => k_asm); (case mqk3 => k_asm); (case mqk4 => k_asm); (case mqk5 => k_asm); (case mqkK => first | exact rfl | assumption); (case mqkd => ktr_room); (case mqku => ktr_units); (case mqkp => exact trivial)); walk_at "mine:used")
  trivial

theorem kw_j20 : True := by
  k_with "call ref" => ((have q : Seg 8 := by assumption); (clear q); k_here; (with_reducible show wpAny _ _ (call (Value.ref 164) _ _) _ _ _); k_dflt (refine' Spec.use (c_translate _ _ (by assumption) (by assumption) _) ?mqk1 ?mqk2 ?mqk3 ?mqk4 ?mqk5 ?mqkK ?mqkd ?mqku ?mqkp ?_; (case mqk1 => k_asm); (case mqk2 => k_asm); (case mqk3 => k_asm); (case mqk4 => k_asm); (case mqk5 => k_asm); (case mqkK => first | exact rfl | assumption); (case mqkd => ktr_room); (case mqku => ktr_units); (case mqkp => exact trivial)); walk_at "mine:used")
  trivial

theorem kw_Jx148 : True := by
  k_with "call ref" => ((have q : Seg 8 := by assumption); (clear q); k_here; (with_reducible show wpAny _ _ (call (Value.ref 212) _ _) _ _ _); k_dflt (refine' Spec.use (c_ltx _ _ ?mqvs ?mqls ?mqhi ?mqh1 ?mqh2 ?mqh3) ?mqk1 ?mqk2 ?mqk3 ?mqk4 ?mqk5 ?mqkK ?mqkd ?mqku ?mqkp ?_; (case mqk1 => k_asm); (case mqk2 => k_asm); (case mqk3 => k_asm); (case mqk4 => k_asm); (case mqk5 => k_asm); (case mqkK => first | exact rfl | assumption); (case mqkd => ktr_room); (case mqku => ktr_units); (case mqkp => kmk_list); (case mqhi => assumption); (case mqh1 => assumption); (case mqh2 => assumption); (case mqh3 => assumption)); walk_at "mine:used")
  trivial
theorem kw_Jx149 : True := by
  k_with "compareOp NotEq str str" => ((have q : Seg 9 := by assumption); (clear q); k_here; refine' ne_S_same ?mqhx ?mqhy ?mqe ?_; (case mqhx => first | rfl | exact ofS _); (case mqhy => first | rfl | exact ofS _); (case mqe => assumption))
  trivial
theorem kw_j21 : True := by
  k_with "call ref" => ((have q : Seg 9 := by assumption); (clear q); k_here; (with_reducible show wpAny _ _ (call (Value.ref 57) _ _) _ _ _); k_dflt (refine' Spec.use (c_tp _ _ (by assumption) (by assumption) _) ?mqk1 ?mqk2 ?mqk3 ?mqk4 ?mqk5 ?mqkK ?mqkd ?mqku ?mqkp ?_; (case mqk1 => k_asm); (case mqk2 => k_asm); (case mqk3 => k_asm); (case mqk4 => k_asm); (case mqk5 => k_asm); (case mqkK => first | exact rfl | assumption); (case mqkd => ktr_room); (case mqku => ktr_units); (case mqkp => exact trivial)); walk_at "mine:used")
  trivial

theorem kw_j22 : True := by
  k_with "call ref" => ((have q : Seg 9 := by assumption); (clear q); k_here; (with_reducible show wpAny _ _ (call (Value.ref 164) _ _) _ _ _); k_dflt (refine' Spec.use (c_translate _ _ (by assumption) (by assumption) _) ?mqk1 ?mqk2 ?mqk3 ?mqk4 ?mqk5 ?mqkK ?mqkd ?mqku ?mqkp ?_; (case mqk1 => k_asm); (case mqk2 => k_asm); (case mqk3 => k_asm); (case mqk4 => k_asm); (case mqk5 => k_asm); (case mqkK => first | exact rfl | assumption); (case mqkd => ktr_room); (case mqku => ktr_units); (case mqkp => exact trivial)); walk_at "mine:used")
  trivial

theorem kw_j23 : True := by
  k_with "call ref" => ((have q : Seg 9 := by assumption); (clear q); k_here; (with_reducible show wpAny _ _ (call (Value.ref 207) _ _) _ _ _); k_dflt (refine' Spec.use (c_lesc _ _ (by assumption) (by assumption) _) ?mqk1 ?mqk2 ?mqk3 ?mqk4 ?mqk5 ?mqkK ?mqkd ?mqku ?mqkp ?_; (case mqk1 => k_asm); (case mqk2 => k_asm); (case mqk3 => k_asm); (case mqk4 => k_asm); (case mqk5 => k_asm); (case mqkK => first | exact rfl | assumption); (case mqkd => ktr_room); (case mqku => ktr_units); (case mqkp => exact trivial)); walk_at "mine:used")
  trivial

theorem kw_j24 : True := by
  k_with "call ref" => ((have q : Seg 9 := by assumption); (clear q); k_here; (with_reducible show wpAny _ _ (call (Value.ref 171) _ _) _ _ _); k_dflt (refine' Spec.useNew (c_trn0 _ _ (by assumption) (by assumption) _ _) ?mqk1 ?mqk2 ?mqk3 ?mqk4 ?mqk5 ?mqkK ?mqkd ?mqku ?mqkp ?_; (case mqk1 => k_asm); (case mqk2 => k_asm); (case mqk3 => k_asm); (case mqk4 => k_asm); (case mqk5 => k_asm); (case mqkK => first | exact rfl | assumption); (case mqkd => ktr_room); (case mqku => ktr_units); (case mqkp => exact trivial)); walk_at "mine:usedN")
  trivial

theorem kw_j25 : True := by
  k_with "call ref" => ((have q : Seg 9 := by assumption); (clear q); k_here; (with_reducible show wpAny _ _ (call (Value.ref 217) _ _) _ _ _); k_dflt (refine' Spec.useNew (c_cut _ _ _ _ (by assumption) (by assumption) (by assumption)) ?mqk1 ?mqk2 ?mqk3 ?mqk4 ?mqk5 ?mqkK ?mqkd ?mqku ?mqkp ?_; (case mqk1 => k_asm); (case mqk2 => k_asm); (case mqk3 => k_asm); (case mqk4 => k_asm); (case mqk5 => k_asm); (case mqkK => first | exact rfl | assumption); (case mqkd => ktr_room); (case mqku => ktr_units); (case mqkp => exact News.isList (by k_asm) (by k_mem))); walk_at "mine:usedN")
  trivial

theorem kw_Jx150 : True := by
  k_with "compareOp Eq ref ref" => ((have q : Seg 10 := by assumption); (clear q); k_here; k_dflt (first
  | (refine' eq_strs2 ?mqa ?mqb ?mqx ?mqy ?mqe ?mql ?mqu ?_; (case mqa => kmk_list); (case mqb => kmk_list); (case mqx => assumption); (case mqy => assumption); (case mqe => assumption); (case mql => assumption); (case mqu => units_room))
  | (refine' eq_rows ?mqa ?mqb ?mqx ?mqy ?mqu ?_; (case mqa => kmk_list); (case mqb => kmk_list); (case mqx => assumption); (case mqy => assumption); (case mqu => units_room))))
  trivial
theorem kw_Jx151 : True := by
  k_with "call builtin:len" => ((have q : Seg 10 := by assumption); (clear q); k_here; k_dflt (refine' len_words ?mqhl ?mqhi ?mqe ?mqhz (fun _ _ => ?_); (case mqhl => kmk_list); (case mqhi => assumption); (case mqe => assumption); (case mqhz => first | assumption | exact Nat.le_trans (by assumption) (by decide) | omega)))
  trivial
theorem kw_Jx152 : True := by
  k_with "subscriptTail" => ((have q : Seg 10 := by assumption); (clear q); k_here; (with_reducible show wpAny _ _ (subscriptTail _ _ (Value.ref _) (Value.int _ _)) _ _ _); k_dflt (refine' item_words2 ?mqhl ?mqhi ?mqe ?mqhz ?mqh0 ?mqh1 (fun _ => ?_) ?mqhs ?mqht; (case mqhl => kmk_list); (case mqhi => assumption); (case mqe => assumption); (case mqhz => first | assumption | exact Nat.le_trans (by assumption) (by decide) | omega); (case mqh0 => first | assumption | exact Nat.le_trans (by assumption) (by decide) | omega); (case mqh1 => first | assumption | exact Nat.le_trans (by assumption) (by decide) | omega); (case mqhs => with_unfolding_all rfl); (case mqht => intro _; with_unfolding_all rfl)))
  trivial
theorem kw_j26 : True := by
  k_with "call ref" => ((have q : Seg 10 := by assumption); (clear q); k_here; (with_reducible show wpAny _ _ (call (Value.ref 202) _ _) _ _ _); k_dflt (refine' Spec.use (c_back _ _ (rowL_mem _) _ _ _) ?mqk1 ?mqk2 ?mqk3 ?mqk4 ?mqk5 ?mqkK ?mqkd ?mqku ?mqkp ?_; (case mqk1 => k_asm); (case mqk2 => k_asm); (case mqk3 => k_asm); (case mqk4 => k_asm); (case mqk5 => k_asm); (case mqkK => first | exact rfl | assumption); (case mqkd => ktr_room); (case mqku => ktr_units); (case mqkp => exact trivial)); walk_at "mine:used")
  trivial

inductive Mark : Nat → Prop
  | mk (n : Nat) : Mark n
theorem kw_Jx153 : True := by
  k_with "compareOp Eq ref ref" => ((have q : Seg 10 := by assumption); (clear q); k_here; (have q : Mark 1 := by assumption); (clear q); refine halt ?_)
  trivial
theorem body.tw3900665798857181826 : True := trivial
theorem body.tw11177898745834345057 : True := trivial
theorem body.tw9829421112860934859 : True := trivial
theorem body.tw10206904841870476951 : True := trivial
theorem body.tw2930388217191038658 : True := trivial
theorem body.tw1242085337748562211 : True := trivial
theorem body.tw17212788960826768712 : True := trivial
theorem body.tw16319689250708781423 : True := trivial
theorem body.tw18335297839054650399 : True := trivial
theorem body.tw13527813313644073567 : True := trivial
theorem body.tw5331668671042722880 : True := trivial
theorem body.tw5919704514844906653 : True := trivial
theorem body.tw11157908408744416939 : True := trivial
theorem body.tw16642296979347292138 : True := trivial
theorem body.tw145163470530447542 : True := trivial
theorem body.tw5983967164132987473 : True := trivial
theorem body.tw9799429026152839760 : True := trivial
theorem body.tw6501488865268834359 : True := trivial
theorem body.tw9065453563228492600 : True := trivial
theorem body.tw10872997219692257760 : True := trivial
theorem body.tw17044740941130679107 : True := trivial
theorem body.tw2528867797658023223 : True := trivial
theorem body.tw12249756331230078198 : True := trivial
theorem body.tw14104066429843394585 : True := trivial
theorem body.tw16416934711502750375 : True := trivial
theorem body.tw15636074906341315549 : True := trivial
theorem body.tw16651978231437116252 : True := trivial
theorem body.tw16577531157716588734 : True := trivial
theorem body.tw11211213910643128734 : True := trivial
theorem body.tw453084308689766426 : True := trivial
theorem body.tw17246943194979958400 : True := trivial
theorem body.tw12842913833952453620 : True := trivial
theorem body.tw14100049256013522784 : True := trivial
theorem body.tw9565554248530639308 : True := trivial
theorem body.tw17199483374204976646 : True := trivial
theorem body.tw6591781240518732466 : True := trivial
theorem body.tw12562354157054333235 : True := trivial
theorem body.tw6391026942319400541 : True := trivial
theorem body.tw9948535045241221036 : True := trivial
theorem body.tw5558926805820784150 : True := trivial
theorem body.tw18203876146977418872 : True := trivial
theorem body.tw636314237929221771 : True := trivial
theorem body.tw7484365026459554678 : True := trivial
theorem body.tw1132496462694130018 : True := trivial
theorem body.tw4685823968762665044 : True := trivial
theorem body.tw5664773767214366228 : True := trivial
theorem body.tw13445982503174902298 : True := trivial
theorem body.tw5738340867117828374 : True := trivial
theorem body.tw6088046093384908244 : True := trivial
theorem body.tw15761997894283834316 : True := trivial
theorem body.tw7702383585262505995 : True := trivial
theorem body.tw3723309099042937635 : True := trivial
theorem body.tw16025102298199374092 : True := trivial
theorem body.tw11072032996440274690 : True := trivial
theorem body.tw6438940877563819566 : True := trivial
theorem body.tw17800827108345750327 : True := trivial
theorem body.tw17161352773193296272 : True := trivial
theorem body.tw7352488168374024822 : True := trivial
theorem body.tw15875294826353853430 : True := trivial
theorem body.tw1288984898565103028 : True := trivial
theorem body.tw3368181473508543008 : True := trivial
theorem body.tw6829272344391226328 : True := trivial
theorem body.tw9788146975225634749 : True := trivial
theorem body.tw351947186583481005 : True := trivial
theorem body.tw1669865696109607151 : True := trivial
theorem body.tw15620948949861985288 : True := trivial
theorem body.tw14053911674197166731 : True := trivial
theorem body.tw4048232905026118474 : True := trivial
theorem body.tw915854009677655609 : True := trivial
theorem body.tw1376915969749647351 : True := trivial
theorem body.tw1647205290579257167 : True := trivial
theorem body.tw345429661396848001 : True := trivial
theorem body.tw14166041315597798362 : True := trivial
theorem body.tw11811260350004301320 : True := trivial
theorem body.tw13064714929284287603 : True := trivial
theorem body.tw8529775248483174223 : True := trivial
theorem body.tw4758167745310263649 : True := trivial
theorem body.tw11066970834957018088 : True := trivial
theorem body.tw13890561381978640276 : True := trivial
theorem body.tw11767744845883130902 : True := trivial
theorem body.tw16688384590030706618 : True := trivial
theorem body.tw18236268733133949986 : True := trivial
theorem body.tw5810600508192419843 : True := trivial
theorem body.tw17192729395686661052 : True := trivial
theorem body.tw14432233216491120573 : True := trivial
theorem body.tw17334754589704390789 : True := trivial
theorem body.tw6109895397748914273 : True := trivial
theorem body.tw18178328666565358261 : True := trivial
theorem body.tw8705996151934319344 : True := trivial
theorem body.tw7756994599414359794 : True := trivial
theorem body.tw9294934698052410045 : True := trivial
theorem body.tw3120560603512396825 : True := trivial
theorem body.tw15439769982638755479 : True := trivial
theorem body.tw16563485546565975355 : True := trivial
theorem body.tw15313830253738769522 : True := trivial
theorem body.tw14104883617752559212 : True := trivial
theorem body.tw16677488371306061695 : True := trivial
theorem body.tw15780801243693414181 : True := trivial
theorem body.tw1210249941161075594 : True := trivial
theorem body.tw15997929191076010679 : True := trivial
theorem body.tw13020168336178148611 : True := trivial
theorem body.tw8339466012255370597 : True := trivial
theorem body.tw3546980419857361348 : True := trivial
theorem body.tw10059030278139254432 : True := trivial
theorem body.tw1534575370615719299 : True := trivial
theorem body.tw5556013850705182393 : True := trivial
theorem body.tw3074438739635325877 : True := trivial
theorem body.tw16216214847001227532 : True := trivial
theorem body.tw17314851686821860634 : True := trivial
theorem body.tw8657676610580400530 : True := trivial
theorem body.tw16068002491538521022 : True := trivial
theorem body.tw7686015872713830110 : True := trivial
theorem body.tw13950374484444526816 : True := trivial
theorem body.tw5408258214843439088 : True := trivial
theorem body.tw2684556641677224719 : True := trivial
theorem body.tw13177104627437006814 : True := trivial
theorem body.tw10222049996914126481 : True := trivial
theorem body.tw18007744740820049574 : True := trivial
theorem body.tw10769081813322812956 : True := trivial
theorem body.tw2732756039278349124 : True := trivial
theorem body.tw7862473533686755881 : True := trivial
theorem body.tw14522598581350798125 : True := trivial
theorem body.tw13625040667132597012 : True := trivial
theorem body.tw13628754159204726359 : True := trivial
theorem body.tw702179682667288330 : True := trivial
theorem body.tw12305510511199024572 : True := trivial
theorem body.tw5871325170733600228 : True := trivial
theorem body.tw11416327467555169913 : True := trivial
theorem body.tw7853053739623617693 : True := trivial
theorem body.tw17049839364962146576 : True := trivial
theorem body.tw16099859557454542890 : True := trivial
theorem body.tw5417477352714334654 : True := trivial
theorem body.tw837780096814429066 : True := trivial
theorem body.tw3197333754258696254 : True := trivial
theorem body.tw10471037697357597627 : True := trivial
theorem body.tw6841850410817039226 : True := trivial
theorem body.tw11440492371369808825 : True := trivial
theorem body.tw11764246825942110027 : True := trivial
theorem body.tw10551057309803571098 : True := trivial
theorem body.tw5483707983322402194 : True := trivial
theorem body.tw11358757940500480731 : True := trivial
theorem body.tw13767326215487159622 : True := trivial
theorem body.tw2955614317523817305 : True := trivial
theorem body.tw1740779032231512690 : True := trivial
theorem body.tw9103415534669454906 : True := trivial
theorem body.tw14511218663983092519 : True := trivial
theorem body.tw3352413485141043669 : True := trivial
theorem body.tw8170919113250942277 : True := trivial
theorem body.tw13624705363317215713 : True := trivial
theorem body.tw17436295657053444716 : True := trivial
theorem body.tw2474078600491744934 : True := trivial
theorem body.tw236828839550656610 : True := trivial
theorem body.tw12676114726021088620 : True := trivial
theorem body.tw8062151962417943244 : True := trivial
theorem body.tw17865244018573844149 : True := trivial
theorem body.tw17011589694802006867 : True := trivial
theorem body.tw3750280414289646177 : True := trivial
theorem body.tw3168562033151831045 : True := trivial
theorem body.tw4123458251329972652 : True := trivial
theorem body.tw404408671226452577 : True := trivial
theorem body.tw5763315200690253372 : True := trivial
theorem body.tw15338625104908695892 : True := trivial
theorem body.tw17459056207710827998 : True := trivial
theorem body.tw3563751707620476373 : True := trivial
theorem body.tw6793362021686615780 : True := trivial
theorem body.tw12445822076738462408 : True := trivial
theorem body.tw14428107146702184230 : True := trivial
theorem body.tw4253893525581898142 : True := trivial
theorem body.tw7030866740341392362 : True := trivial
theorem body.tw14129065829785848182 : True := trivial
theorem body.tw2454110500948065292 : True := trivial
theorem body.tw7353323254769005205 : True := trivial
theorem body.tw15129984562947100371 : True := trivial
theorem body.tw8431073364126516727 : True := trivial
theorem body.tw10184606397085071581 : True := trivial
theorem body.tw11228427436715670637 : True := trivial
theorem body.tw16666522915641856795 : True := trivial
theorem body.tw16193584258935319723 : True := trivial
theorem body.tw15344041993649788419 : True := trivial
theorem body.tw10094700589322530392 : True := trivial
theorem body.tw18388263775285791782 : True := trivial
theorem body.tw4268563036120335808 : True := trivial
theorem body.tw9620934704386193777 : True := trivial
theorem body.tw3213573216784322383 : True := trivial
theorem body.tw4125317025361475439 : True := trivial
theorem body.tw11104872195845137565 : True := trivial
theorem body.tw8464232761010357472 : True := trivial
theorem body.tw4699091592381616425 : True := trivial
theorem body.tw12516632782584091312 : True := trivial
theorem body.tw8000580172266400771 : True := trivial
theorem body.tw17088650143290397317 : True := trivial
theorem body.tw7090097874091480656 : True := trivial
theorem body.tw9459690521557448642 : True := trivial
theorem body.tw8167092528292030292 : True := trivial
theorem body.tw9610176971630384698 : True := trivial
theorem body.tw13321329890811553048 : True := trivial
theorem body.tw2378348039065620322 : True := trivial
theorem body.tw6947922831395367350 : True := trivial
theorem body.tw11859019992458846104 : True := trivial
theorem body.tw11596551129997031213 : True := trivial
theorem body.tw11743492005656513735 : True := trivial
theorem body.tw17798159379722055085 : True := trivial
theorem body.tw11564378533903156943 : True := trivial
theorem body.tw1321432312492877159 : True := trivial
theorem body.tw9306692748010652850 : True := trivial
theorem body.tw3747980991680117800 : True := trivial
theorem body.tw5135302371967351569 : True := trivial
theorem body.tw7477427546040648727 : True := trivial
theorem body.tw12290289771411671706 : True := trivial
theorem body.tw3440344672037451914 : True := trivial
theorem body.tw15624088383250002207 : True := trivial
theorem body.tw14419004824935545208 : True := trivial
theorem body.tw5366833443572936501 : True := trivial
theorem body.tw9741878638755603822 : True := trivial
theorem body.tw1843923372753097028 : True := trivial
theorem body.tw12850850905092762168 : True := trivial
theorem body.tw148673576089228199 : True := trivial
theorem body.tw17208515299137121762 : True := trivial
theorem body.tw11720190601527585812 : True := trivial
theorem body.tw7174787695998917331 : True := trivial
theorem body.tw8246715556465380514 : True := trivial
theorem body.tw701979915907623481 : True := trivial
theorem body.tw11067393370396962291 : True := trivial
theorem body.tw15486829922825227879 : True := trivial
theorem body.tw10257990969930539436 : True := trivial
theorem body.tw10343669393356743684 : True := trivial
theorem body.tw652639674498291930 : True := trivial
theorem body.tw14466992415758832271 : True := trivial
theorem body.tw7198265057097517404 : True := trivial
theorem body.tw4963725194291150571 : True := trivial
theorem body.tw877099876357161143 : True := trivial
theorem body.tw3286198238707865524 : True := trivial
theorem body.tw9287015149775981178 : True := trivial
theorem body.tw6874718599285099565 : True := trivial
theorem body.tw7195283694911870937 : True := trivial
theorem body.tw4831660729878689746 : True := trivial
theorem body.tw6725311706650683493 : True := trivial
theorem body.tw4768587225606160278 : True := trivial
theorem body.tw4457195881976906366 : True := trivial
theorem body.tw12774884698739685022 : True := trivial
theorem body.tw14498567137548158087 : True := trivial
theorem body.tw1024378707265710410 : True := trivial
theorem body.tw14562722879653852257 : True := trivial
theorem body.tw87879718600724722 : True := trivial
theorem body.tw7347330431868624205 : True := trivial
theorem body.tw11170048927921034165 : True := trivial
theorem body.tw18117116109191031766 : True := trivial
theorem body.tw1117404701484513558 : True := trivial
theorem body.tw3882379977735875881 : True := trivial
theorem body.tw8631043512046974746 : True := trivial
theorem body.tw16047369750694979314 : True := trivial
theorem body.tw17704917164592829594 : True := trivial
theorem body.tw11040052215943726489 : True := trivial
theorem body.tw6152591884049879521 : True := trivial
theorem body.tw4479438005050317691 : True := trivial
theorem body.tw597496684571977845 : True := trivial
theorem body.tw14461136422214186581 : True := trivial
theorem body.tw6766430561133634404 : True := trivial
theorem body.tw10728580337191940546 : True := trivial
theorem body.tw6751066563375799921 : True := trivial
theorem body.tw8920614749389040633 : True := trivial
theorem body.tw8583480834154712836 : True := trivial
theorem body.tw1586017325896465201 : True := trivial
theorem body.tw6432755142104181549 : True := trivial
theorem body.tw17197778473882933074 : True := trivial
theorem body.tw6886154796235271488 : True := trivial
theorem body.tw18378319485107129627 : True := trivial
theorem body.tw18371060853725907391 : True := trivial
theorem body.tw17129110305621364942 : True := trivial
theorem body.tw16787782465928324187 : True := trivial
theorem body.tw14922024400535757786 : True := trivial
theorem body.tw8899990594252372496 : True := trivial
theorem body.tw2758077223958613589 : True := trivial
theorem body.tw16987010730554599151 : True := trivial
theorem body.tw13802152638852546179 : True := trivial
theorem body.tw15059602758801861982 : True := trivial
theorem body.tw11182367654932533939 : True := trivial
theorem body.tw13942476374514709532 : True := trivial
theorem body.tw15174154171887730914 : True := trivial
theorem body.tw10303133361655755405 : True := trivial
theorem body.tw9763225539806212761 : True := trivial
theorem body.tw1623774906241333592 : True := trivial
theorem body.tw8081775904264687824 : True := trivial
theorem body.tw13781900733744315750 : True := trivial
theorem body.tw5451831718602715633 : True := trivial
theorem body.tw9300260119016409474 : True := trivial
theorem body.tw14535616251784745562 : True := trivial
theorem body.tw6800884126725824270 : True := trivial
theorem body.tw14629400103183544603 : True := trivial
theorem body.tw7719855528119048275 : True := trivial
theorem body.tw14546507552980610895 : True := trivial
theorem body.tw10829697160413415311 : True := trivial
theorem body.tw13700078200927301442 : True := trivial
theorem body.tw12720809319138264414 : True := trivial
theorem body.tw8194012888352213881 : True := trivial
theorem body.tw18104667716189459752 : True := trivial
theorem body.tw7229492237728953417 : True := trivial
theorem body.tw13469501749030015368 : True := trivial
theorem body.tw7033752522351633620 : True := trivial
theorem body.tw16906627995885219503 : True := trivial
theorem body.tw15940255595960382280 : True := trivial
theorem body.tw13945799182367745514 : True := trivial
theorem body.tw9232817554303474527 : True := trivial
theorem body.tw17453574293364209647 : True := trivial
theorem body.tw16147290467183601611 : True := trivial
theorem body.tw16921842083584960533 : True := trivial
theorem body.tw17978306900785076076 : True := trivial
theorem body.tw7477096652425816824 : True := trivial
theorem body.tw1043976608549528271 : True := trivial
theorem body.tw9980341259371077180 : True := trivial
theorem body.tw5242184381635691670 : True := trivial
theorem body.tw12660141136558865385 : True := trivial
theorem body.tw11894032911540144796 : True := trivial
theorem body.tw4031454610505303086 : True := trivial
theorem body.tw11269937096566111127 : True := trivial
theorem body.tw4315178407428346571 : True := trivial
theorem body.tw9913782525675966504 : True := trivial
set_option Elab.async true in
theorem body : PySem.Challenge.rw_kq0056_01.Holds := by
  w_on
  o_law
  o_head (kmHook Mine.heapK [2, 3, 32, 34, 35, 37, 38, 40, 44, 46, 47, 49, 50, 51, 53, 54, 56, 57, 58, 59, 61, 62, 64, 65, 66, 73, 74, 75, 76, 79, 81, 82, 84, 85, 86, 88, 89, 91, 92, 93, 95, 96, 98, 99, 100, 102, 103, 105, 106, 107, 108, 110, 111, 113, 114, 115, 116, 118, 119, 121, 122, 123, 124, 126, 127, 129, 130, 131, 132, 134, 135, 137, 138, 139, 141, 142, 144, 145, 146, 148, 149, 151, 152, 156, 157, 158, 160, 161, 163, 164, 165, 167, 168, 170, 171, 172, 174, 175, 177, 178, 179, 182, 183, 184, 186, 187, 189, 190, 191, 194, 195, 196, 198, 199, 201, 202, 203, 206, 207, 208, 211, 212, 213, 216, 217, 218, 221, 222] (fun _ => by kernel_rfl) [166])
  (case hw => w_witness2)
  w_top off
  have seg1 : Seg 1 := .mk _
  k_go0
  rename_i oA oB oC hcA hcB hcC hX0 hXin hTop hBel hF0 hN0 hl0
  rename Shared => s1
  rename List Int => ns
  have hmod1 := fmod2 (List.take 4 ns).sum
  have hmod2 := fmod2 ((List.take 4 ns).sum.fdiv 2)
  k_steps
  rename IntsAre _ (List.take 4 _ ++ _) => hnum0
  obtain ⟨xs, hnum, hx4, hx8, hx35⟩ := nums_facts hnum0
  have hnl := IntsAre.length hnum
  clear hnum0
  k_dflt (refine src_list (by rfl) (by k_asm) (by k_asm) (.inr ⟨_, by k_mem, rfl, _, rfl⟩) ?_ ?_)
  · rw [sizeLine_eq, List.size_toArray]; omega
  intro g
  refine rest_inv (V := RowAt xs) ?_ ?_
  · intro i v ys I oI C oC D m₂ h tk E' hi hv hC hx F N off ne
    have hv' := hv
    simp only [List.getElem?_toArray] at hv'
    have hi' : i < xs.length := by rw [List.size_toArray] at hi; omega
    obtain ⟨t, rfl⟩ := IntsAre.int_at hnum i v hv'
    show wpAny _ _ _ _ _ _
    k_fold
    k_steps
    refine CompEnd.intro (by k_asm) (by k_asm) _ (fun p hp => hp) off (.inr ⟨_, by k_mem, rfl, _, rfl⟩) ⟨rfl, hi', _, rfl⟩
  · intro ysR hys hV
    have hrows : RowsAre ysR xs := ⟨by rw [hys, List.size_toArray]; omega, hV⟩
    clear hV hys
    k_steps
    rename_i R r1 r2 r3 r4 oR r5 r6 hoR r7 r8 r9 r10 r11 r12 r13 r14 r15 r16 r17
    have hRc : @Ne Nat R (s1.heap.objs.size + 1 + 1) := by omega
    have hRd : @Ne Nat R (s1.heap.objs.size + 1 + 1 + 1) := by omega
    clear r3
    clear seg1
    have seg2 : Seg 2 := .mk _
    k_dflt (refine src_up (n := xs.length) (by rfl) (by k_asm) (by k_asm) (by assumption) ?_ ?_ ?_ ?_)
    · exact range_small0 _ (by omega)
    · exact range_size0 _
    · rw [sizeLine_eq]; omega
    intro g
    refine rest_inv (V := StrAt (wordsOf xs)) ?_ ?_
    · intro i v ys I oI C oC D m₂ h tk E' hi hv hC hx F N off ne
      obtain ⟨t, rfl⟩ := hv
      dsimp only at F N ⊢
      show wpAny _ _ _ _ _ _
      k_fold
      k_steps
      refine CompEnd.intro (by k_asm) (by k_asm) _ (fun p hp => hp) off trivial ⟨rfl, word_at hi _⟩
    · intro ysW hys hV
      have hwords := strs_at (ls := wordsOf xs) (by rw [hys, wordsOf_len]) hV
      clear hV hys
      k_steps
      rename_i Wd w1 w2 w3 w4 w5 w6 w7 w8 w9 w10 w11 w12 w13 w14 w15 w16
      have hWc : @Ne Nat Wd (s1.heap.objs.size + 1 + 1) := by omega
      have hWe : @Ne Nat Wd (s1.heap.objs.size + 1 + 1 + 1) := by omega
      clear w5
      clear seg2
      have seg3 : Seg 3 := .mk _
      k_dflt (refine src_up (n := xs.length) (by rfl) (by k_asm) (by k_asm) (by assumption) ?_ ?_ ?_ ?_)
      · exact range_small0 _ (by omega)
      · exact range_size0 _
      · rw [sizeLine_eq]; omega
      intro g
      have hasc : ∀ l ∈ wordsOf xs, ∀ c ∈ l, c < 128 := fun l hl => (wordsOf_mem hl).1.ascii
      refine rest_inv (V := StrAt (wordsOf xs)) ?_ ?_
      · intro i v ys I oI C oC D m₂ h tk E' hi hv hC hx F N off ne
        obtain ⟨t, rfl⟩ := hv
        dsimp only at F N ⊢
        show wpAny _ _ _ _ _ _
        k_fold
        k_steps
        refine CompEnd.intro (by k_asm) (by k_asm) _ (fun p hp => List.mem_cons_of_mem _ hp) off trivial ⟨rfl, word_at hi _⟩
      · intro ysX hys hV
        have hwords2 := strs_at (ls := wordsOf xs) (by rw [hys, wordsOf_len]) hV
        clear hV hys
        k_steps
        clear hwords2
        rename_i X6 x1 x2 x3 x4 x5
        have hXc : @Ne Nat X6 (s1.heap.objs.size + 1 + 1) := by omega
        clear x5
        clear seg3
        have seg4 : Seg 4 := .mk _
        have hwl := wordsOf_len xs
        have hw0 : ∀ k : Nat, k < xs.length → (∀ c ∈ (wordsOf xs).getD k [], c < 128) ∧ ((wordsOf xs).getD k []).length ≤ 10000 := fun k hk => by
          rw [wordsOf_get hk]
          have := goodS_of (word_ok _ (rowL_mem (xs.getD k 0)) (par k))
          exact ⟨this.1.ascii, by rw [this.2]; decide⟩
        obtain ⟨hw00, hw01⟩ : (∀ c ∈ (wordsOf xs).getD (Int.toNat 0) [], c < 128) ∧ ((wordsOf xs).getD (Int.toNat 0) []).length ≤ 10000 := hw0 0 (by omega)
        show wpAny _ _ _ _ _ _
        k_steps
        rename_i P us0 q1 hp0 q2 q3 q4 q5 q6 q7 qa qb q8 oP hoP Z2 ns2 q10 q11 q12 hz2 q13 q14 q15 Z1 q16 ws2 hz1 F5 N5 q17
        clear seg4
        have seg5 : Seg 5 := .mk _
        show wpAny _ _ _ _ _ _
        have ht0 : ((List.take 4 ns).sum.fmod 2).toNat ≤ 2 := by omega
        dsimp (config := { zetaDelta := true }) only at F5
        generalize hT0 : ((List.take 4 ns).sum.fmod 2).toNat = t0 at F5 N5 hp0 ht0
        have hPc : P ≠ s1.heap.objs.size + 1 + 1 := by k_ne
        have hZ1 : @LT.lt Nat _ (s1.heap.objs.size + 1 + 1 + 1) Z1 := by omega
        have hZ2 : @LT.lt Nat _ (s1.heap.objs.size + 1 + 1 + 1) Z2 := by omega
        repeat (rename (@LT.lt Nat _ _ _ ∧ _) => junk; clear junk)
        refine for_zip (σ := Tok × Addr × List Value × Nat × Obj) (fun _ c => [(c.2.1, W.listOf c.2.2.1.toArray c.2.2.2.1), (s1.heap.objs.size + 1 + 1, c.2.2.2.2), (s1.heap.objs.size + 1, oR), (s1.heap.objs.size + 1 + 1 + 1, oA), (R, lst ysR), (Wd, lst ysW), (Z1, W.listOf ws2.toArray 0), (Z2, W.listOf ns2.toArray 0), (166, tabObj #[])])
          (fun i c => [(PySem.Str.ofString "pattern", .str (S (patAt t0 xs (wordsOf xs) i)) c.1)])
          (fun i c => StrsAre c.2.2.1 ((partsAt t0 xs (wordsOf xs) i).map S) ∧ c.2.2.2.2.data = .cell (some (.ref c.2.1)) ∧ c.2.1 ≠ s1.heap.objs.size + 1 + 1)
          [PySem.Str.ofString "x", PySem.Str.ofString "word", PySem.Str.ofString "stars"] (_, P, us0, 0, oP)
          (by rfl) (by rfl) (by rfl) (by rfl) F5 (kst_newsOf N5 (by kst_inAny)) (fun i c _ => ⟨.inr ⟨_, by k_mem, rfl, _, rfl⟩, .inr ⟨_, by k_mem, rfl, _, rfl⟩⟩) (by kst_all) ⟨hp0, hoP, hPc⟩ ?_ ?_ ?_ ?_
        · show @Ne Nat Z2 s1.heap.objs.size
          omega
        · show @Ne Nat Z1 s1.heap.objs.size
          omega
        · intro g i c u x y Z TI TO I1 I2 o1 o2 o3 o4 o5 h tk E' hi hinv hx hy F N off
          obtain ⟨hps, hcell, hPc'⟩ := hinv
          have hx' : ns2[i]? = some x := by simpa using hx
          have hy' : ws2[i]? = some y := by simpa using hy
          obtain ⟨t1, rfl⟩ := IntsAre.int_at hz2 i x hx'
          obtain ⟨a, t2, ha, rfl⟩ := strs_get hz1 i y hy'
          obtain ⟨hae, ham⟩ := drop_atW ha
          rw [drop_at0] at F
          have hi10 : i ≤ 10 := by
            have h1 := (List.getElem?_eq_some_iff.mp ha).1
            rw [List.length_drop, wordsOf_len] at h1
            omega
          have hpl := patAt_len (xs := xs) ht0 hi10
          have hql := partsAt_len (xs := xs) ht0 hi10
          obtain ⟨ga, gl⟩ := wordsOf_mem ham
          have ga1 := ga.ascii
          have ga2 : a.length ≤ 10000 := by omega
          have offc := off (s1.heap.objs.size + 1 + 1, c.2.2.2.2) (.tail _ (.head _))
          have z1 : @Ne Nat (s1.heap.objs.size + 1 + 1) Z := offc (Z, o1) (.head _)
          have z2 : @Ne Nat (s1.heap.objs.size + 1 + 1) TI := offc (TI, o2) (.tail _ (.head _))
          have z3 : @Ne Nat (s1.heap.objs.size + 1 + 1) TO := offc (TO, o3) (.tail _ (.tail _ (.head _)))
          have z4 : @Ne Nat (s1.heap.objs.size + 1 + 1) I1 := offc (I1, o4) (.tail _ (.tail _ (.tail _ (.head _))))
          have z5 : @Ne Nat (s1.heap.objs.size + 1 + 1) I2 := offc (I2, o5) (.tail _ (.tail _ (.tail _ (.tail _ (.head _)))))
          have z6 : @Ne Nat c.2.1 (s1.heap.objs.size + 1 + 1) := hPc'
          clear offc
          dsimp only [kstB, List.cons_append, List.nil_append] at F N ⊢
          replace F : Fr _ s1.heap.objs.size _ _ := F
          replace N : News _ s1.heap.objs.size _ _ := N
          by_cases h3 : (xs.getD (i + 1) 0).fmod 4 = 3
          · have hstn : stn (xs.getD (i + 1) 0) = 2 := if_pos (by rw [Int.fmod_eq_emod_of_nonneg _ (by decide)] at h3; exact h3)
            have epat : (patAt t0 xs (wordsOf xs) i ++ List.replicate (Int.toNat 2) 42) ++ a = patAt t0 xs (wordsOf xs) (i + 1) := by rw [patAt, hstn, hae]; rfl
            have eparts : (partsAt t0 xs (wordsOf xs) i ++ List.replicate (Int.toNat (2 - 1)) []) ++ [lesc a] = partsAt t0 xs (wordsOf xs) (i + 1) := by rw [partsAt, hstn, hae]; rfl
            walk_at "mine:turn"
            k_steps
            rename_i P2 us2 e1 hps2 e2 e3 oP2 Fe Ne hcell2
            have hP2 : @LT.lt Nat _ (s1.heap.objs.size + 1 + 1) P2 ∧ @LT.lt Nat _ Z P2 ∧ @LT.lt Nat _ TI P2 ∧ @LT.lt Nat _ TO P2 ∧ @LT.lt Nat _ I1 P2 ∧ @LT.lt Nat _ I2 P2 := by omega
            clear e2
            dsimp (config := { zetaDelta := true }) only at Fe
            rw [epat] at Fe
            rw [eparts] at hps2
            refine forO_end (c := (_, P2, us2, 0, oP2)) Fe Ne (by kst_in) (by kst_in) ?_ (by kst_all) (by walk_at "mine:same") ⟨hps2, hcell2, ?_⟩
            · intro p hp q hq
              rcases List.mem_cons.mp hp with rfl | hp
              · obtain ⟨g0, g1, g2, g3, g4, g5⟩ := hP2
                have hq' : q = (Z, o1) ∨ q = (TI, o2) ∨ q = (TO, o3) ∨ q = (I1, o4) ∨ q = (I2, o5) := by simpa using hq
                rcases hq' with rfl | rfl | rfl | rfl | rfl
                · exact neN (Nat.ne_of_gt g1)
                · exact neN (Nat.ne_of_gt g2)
                · exact neN (Nat.ne_of_gt g3)
                · exact neN (Nat.ne_of_gt g4)
                · exact neN (Nat.ne_of_gt g5)
              rcases List.mem_cons.mp hp with rfl | hp
              · exact off (s1.heap.objs.size + 1 + 1, c.2.2.2.2) (.tail _ (.head _)) q hq
              · exact off p (.tail _ (.tail _ hp)) q hq
            · exact neN (Nat.ne_of_gt hP2.1)
          · have hstn : stn (xs.getD (i + 1) 0) = 1 := if_neg (by rw [Int.fmod_eq_emod_of_nonneg _ (by decide)] at h3; exact h3)
            have epat : (patAt t0 xs (wordsOf xs) i ++ List.replicate (Int.toNat 1) 42) ++ a = patAt t0 xs (wordsOf xs) (i + 1) := by rw [patAt, hstn, hae]; rfl
            have eparts : (partsAt t0 xs (wordsOf xs) i ++ List.replicate (Int.toNat (1 - 1)) []) ++ [lesc a] = partsAt t0 xs (wordsOf xs) (i + 1) := by rw [partsAt, hstn, hae]; rfl
            walk_at "mine:turn"
            k_steps
            rename_i P2 us2 e1 hps2 e2 e3 oP2 Fe Ne hcell2
            have hP2 : @LT.lt Nat _ (s1.heap.objs.size + 1 + 1) P2 ∧ @LT.lt Nat _ Z P2 ∧ @LT.lt Nat _ TI P2 ∧ @LT.lt Nat _ TO P2 ∧ @LT.lt Nat _ I1 P2 ∧ @LT.lt Nat _ I2 P2 := by omega
            clear e2
            dsimp (config := { zetaDelta := true }) only at Fe
            rw [epat] at Fe
            rw [eparts] at hps2
            refine forO_end (c := (_, P2, us2, 0, oP2)) Fe Ne (by kst_in) (by kst_in) ?_ (by kst_all) (by walk_at "mine:same") ⟨hps2, hcell2, ?_⟩
            · intro p hp q hq
              rcases List.mem_cons.mp hp with rfl | hp
              · obtain ⟨g0, g1, g2, g3, g4, g5⟩ := hP2
                have hq' : q = (Z, o1) ∨ q = (TI, o2) ∨ q = (TO, o3) ∨ q = (I1, o4) ∨ q = (I2, o5) := by simpa using hq
                rcases hq' with rfl | rfl | rfl | rfl | rfl
                · exact neN (Nat.ne_of_gt g1)
                · exact neN (Nat.ne_of_gt g2)
                · exact neN (Nat.ne_of_gt g3)
                · exact neN (Nat.ne_of_gt g4)
                · exact neN (Nat.ne_of_gt g5)
              rcases List.mem_cons.mp hp with rfl | hp
              · exact off (s1.heap.objs.size + 1 + 1, c.2.2.2.2) (.tail _ (.head _)) q hq
              · exact off p (.tail _ (.tail _ hp)) q hq
            · exact neN (Nat.ne_of_gt hP2.1)
        · intro g c u h tk hinv F N
          obtain ⟨hps, hcell, hPc'⟩ := hinv
          dsimp only [kstB] at F N ⊢
          clear seg5
          have seg6 : Seg 6 := .mk _
          have hlz : min ns2.toArray.size ws2.toArray.size = xs.length - 1 := by
            have h1 := IntsAre.length hz2
            have h2 := strs_len hz1
            rw [List.length_drop] at h1 h2
            rw [wordsOf_len] at h2
            rw [List.size_toArray, List.size_toArray, h1, h2, Nat.min_self]
          rw [hlz] at hps F
          replace F : Fr _ s1.heap.objs.size _ _ := F
          replace N : News _ s1.heap.objs.size _ _ := N
          have z6 : @Ne Nat c.2.1 (s1.heap.objs.size + 1 + 1) := hPc'
          have hpl := patAt_len (xs := xs) ht0 (i := xs.length - 1) (by omega)
          have hql := partsAt_len (xs := xs) ht0 (i := xs.length - 1) (by omega)
          show wpAny _ _ _ _ _ _
          k_steps
          rename_i PA usA a1 hpA a2 a3 a4 a5 a6 a7 b1 b2 a8 oPA FA NA hcellA
          clear seg6
          have seg7 : Seg 7 := .mk _
          have he0 : (((List.take 4 ns).sum.fdiv 2).fmod 2).toNat ≤ 2 := by omega
          dsimp (config := { zetaDelta := true }) only at FA
          generalize hE0 : (((List.take 4 ns).sum.fdiv 2).fmod 2).toNat = e0 at hpA FA NA he0
          have hPAl : (partsAt t0 xs (wordsOf xs) (xs.length - 1) ++ List.replicate e0 []).length ≤ 100 := by
            rw [List.length_append, List.length_replicate]; omega
          have hPA : @LT.lt Nat _ (s1.heap.objs.size + 1 + 1 + 1) PA := by omega
          generalize hPP : partsAt t0 xs (wordsOf xs) (xs.length - 1) ++ List.replicate e0 [] = PP at hpA hPAl
          have husA := strs_len hpA
          repeat (rename (@LT.lt Nat _ _ _ ∧ _) => junk; clear junk)
          show wpAny _ _ _ _ _ _
          refine comp_enum (news := [(PA, W.listOf usA.toArray 0), (s1.heap.objs.size + 1 + 1, oPA), (s1.heap.objs.size + 1, oR), (s1.heap.objs.size + 1 + 1 + 1, oA), (R, lst ysR), (Wd, lst ysW), (166, tabObj #[])])
            (V := fun i ys => StrsAre ys ((fullTo PP i).map S)) (by rfl) (by decide) (by rfl) (by rfl) (by rfl) (by decide) FA (kst_newsOf NA (by kst_inAny)) (.inr ⟨_, .head _, rfl, _, rfl⟩) ?_ ?_ ?_ ?_
          · rw [sizeLine_eq, List.size_toArray]; omega
          · intro g i x ys t e oe j oj C oC D m₂ h tk E' hi hx hV hC hma hmb F N
            have hx' : usA[i]? = some x := by simpa using hx
            obtain ⟨a, t2, ha, rfl⟩ := strs_get hpA i x hx'
            show wpAny _ _ _ _ _ _
            k_fold
            k_steps
            · refine EnEnd.intro (by k_asm) (by k_asm) (fun p hp => hp) ?_
              rw [full_y1 ha (by assumption)]
              exact strs_snoc hV
            · refine EnEnd.intro (by k_asm) (by k_asm) (fun p hp => List.mem_cons_of_mem _ hp) ?_
              rw [full_y2 ha (by assumption)]
              exact strs_snoc hV
            · refine EnEnd.intro (by k_asm) (by k_asm) (fun p hp => List.mem_cons_of_mem _ hp) ?_
              rw [full_n ha (by assumption) (by assumption)]
              exact hV
          · exact .nil
          · intro ysF D C h tk m' hV F N off hn hC₀ hCL hCD offC
            refine assign_fin (by rfl) (by rfl) (by rfl) F N hn hC₀ hCL hCD offC ?_
            clear off hn hC₀ hCL hCD offC F N
            intro v9 h tk F N
            clear seg7
            have seg8 : Seg 8 := .mk _
            have hVF : StrsAre ysF ((fullTo PP PP.length).map S) := by rw [← husA]; simpa using hV
            have hpack := law_pack ht0 he0 hx4 hx8 hx35
            rw [hPP] at hpack
            obtain ⟨ksign, ksize, ktp, ktr, kpart, ktwo, kcut, kn1, kn2, kn3, km1, km2, km3, kk1, kk2⟩ := hpack
            generalize hPT : patAt t0 xs (wordsOf xs) (xs.length - 1) ++ List.replicate e0 42 = PT at F ksign ksize ktp ktr ktwo kcut
            generalize hFL : fullTo PP PP.length = FL at hVF ktr kpart km1 km2 km3 kk2
            have kasc : ∀ c ∈ PT, c < 128 := fun c hc => (ksign c hc).1
            have l4 : (lit "(?s:").length = 4 := by decide +kernel
            have l5 : (lit ")\\Z").length = 3 := by decide +kernel
            have l6 : (lit ".*").length = 2 := by decide +kernel
            have ke1 : lit "(?s:" ++ fin1 (trl PT) ++ lit ")\\Z" = lit "(?s:" ++ lawText FL ++ lit ")\\Z" := by rw [ktr]
            have ke2 : lit "(?s:" ++ fin1 (trl PT) ++ lit ")\\Z" ≠ lit "(?s:" ++ lawText ((stars PT).map esc) ++ lit ")\\Z" := by
              rw [ktr, ktp]
              exact fun q => kpart (List.append_cancel_left (List.append_cancel_right q))
            have ke3 : (lawText ((stars PT).map esc)).length ≤ 100000 := by rw [ktp]; exact kk1
            show wpAny _ _ _ _ _ _
            k_steps
            show wpAny _ _ _ _ _ _
            k_here
            (with_reducible show wpAny _ _ (call (Value.ref 212) _ _) _ _ _)
            k_dflt (refine' Spec.use (c_ltx _ _ ?vs ?ls ?hi ?h1 ?h2 ?h3) ?k1 ?k2 ?k3 ?k4 ?k5 ?kK ?kd ?ku ?kp ?_; (case k1 => k_asm); (case k2 => k_asm); (case k3 => k_asm); (case k4 => k_asm); (case k5 => k_asm); (case kK => first | exact rfl | assumption); (case kd => ktr_room); (case ku => ktr_units); (case kp => kmk_list); (case hi => assumption); (case h1 => assumption); (case h2 => assumption); (case h3 => assumption))
            intro v9 h9 tk9 F9 N9 K9 r9
            (obtain ⟨t9, e9⟩ := r9)
            subst e9
            (try dsimp only)
            (try k_fold)
            k_steps
            clear seg8
            have seg9 : Seg 9 := .mk _
            rename Fr _ _ _ _ => F9w
            rename News _ _ _ _ => N9w
            show wpAny _ _ _ _ _ _
            refine for_list (σ := Unit) (fun _ _ => [(Wd, lst ysW), (s1.heap.objs.size + 1 + 1, oPA), (s1.heap.objs.size + 1, oR), (s1.heap.objs.size + 1 + 1 + 1, oA), (R, lst ysR), (166, tabObj #[])]) (fun _ _ => []) (fun _ _ => True) [PySem.Str.ofString "word"] ()
              (by rfl) (by rfl) (by rfl) F9w (kst_newsOf N9w (by kst_inAny)) (fun _ _ _ => .inr ⟨_, .head _, rfl, _, rfl⟩) (fun p hp => nomatch hp) trivial ?_ ?_ ?_
            · exact (N9w (Wd, lst ysW) (by k_mem)).2.1
            · intro g i c u v I oI h tk E' hi hinv hv F N off
              have hv' : ysW[i]? = some v := by simpa using hv
              obtain ⟨a, t2, ha, rfl⟩ := strs_get hwords i v hv'
              obtain ⟨gw, gl⟩ := wordsOf_mem (List.mem_of_getElem? ha)
              have ga1 := gw.ascii
              have ga2 : ∀ c ∈ a, c < 128 ∧ c ≠ 63 ∧ c ≠ 91 := fun c hc => ⟨gw.ascii c hc, gw.q c hc, gw.b c hc⟩
              have ga3 : a.length ≤ 1000 := by omega
              have ga4 : a.length ≤ 10000 := by omega
              have gle := lesc_le a
              have gw1 := law_word_tp gw
              have gw2 : lit "(?s:" ++ fin1 (trl a) ++ lit ")\\Z" = lit "(?s:" ++ lesc a ++ lit ")\\Z" := by rw [law_word gw]
              dsimp only [kstB, List.cons_append, List.nil_append] at F N ⊢
              replace F : Fr _ s1.heap.objs.size _ _ := F
              replace N : News _ s1.heap.objs.size _ _ := N
              walk_at "mine:turn"
              k_steps
              walk_at "mine:zeta"
              rename News _ _ _ _ => nE
              refine for_end (c := ()) (by k_asm) nE (by k_mem) (by kst_in) off (fun p hp => nomatch hp) (by walk_at "mine:same") trivial
            · intro g c u h tk hinv F N
              have hq1 : ∀ p, some p ∈ trl PT → 1 ≤ p.length ∧ p.length ≤ 1000 := fun p hp => ⟨(trl_some PT p hp).1, Nat.le_trans (trl_some PT p hp).2 (by decide)⟩
              have hq2 : (trl PT).length ≤ 1000 := Nat.le_trans (trl_len PT) ksize
              dsimp only [kstB] at F N ⊢
              replace F : Fr _ s1.heap.objs.size _ _ := F
              replace N : News _ s1.heap.objs.size _ _ := N
              show wpAny _ _ _ _ _ _
              k_steps
              rename_i DT vsT cT hT tkT FT NT nT KT pT qkT ekT DQ vsQ cQ hQ tkQ FQ NQ nQ KQ pQ
              have hdQ : @Ne Nat DQ (s1.heap.objs.size + 1 + 1 + 1) := Ne.symm (nQ (s1.heap.objs.size + 1 + 1 + 1, oA) (by k_mem))
              have hdT : @Ne Nat DT (s1.heap.objs.size + 1 + 1 + 1) := Ne.symm (nT (s1.heap.objs.size + 1 + 1 + 1, oA) (by k_mem))
              clear seg9
              have seg10 : Seg 10 := .mk _
              show wpAny _ _ _ _ _ _
              k_steps
              k_dflt (refine src_up (n := xs.length) (by rfl) (by k_asm) (by k_asm) (by assumption) ?_ ?_ ?_ ?_)
              · exact range_small0 _ (by omega)
              · exact range_size0 _
              · rw [sizeLine_eq]; omega
              intro g
              refine rest_inv (V := RowAt xs) ?_ ?_
              · intro i v ys I oI C oC D m₂ h tk E' hi hv hC hx F N off ne
                obtain ⟨t, rfl⟩ := hv
                dsimp only at F N ⊢
                show wpAny _ _ _ _ _ _
                k_fold
                k_steps
                refine CompEnd.intro (by k_asm) (by k_asm) _ (fun p hp => hp) off trivial ⟨rfl, row_at hi _⟩
              · intro ysZ hys hV
                have hrows2 : RowsAre ysZ xs := ⟨hys, hV⟩
                clear hV hys
                have mk1 : Mark 1 := .mk _
                k_steps
                show wpAny _ _ _ _ _ _
                k_dflt (refine eq_rows (by kmk_list) (by kmk_list) (by assumption) (by assumption) (by units_room) ?_)
                dsimp only
                refine ⟨?_, ?_⟩
                · refine' goodW_bool ?gF ?gg (raisesW_false ?gn) ?gp
                  case gF => with_reducible assumption
                  case gg => assumption
                  case gn => wrow_none_raised
                  case gp => exact law_post ns
                · k_dflt (repeat' (first | exact True.intro | (refine And.intro (GrownAt.of (by k_asm) (by k_mem)) ?_)))
end
end Mine
end
theorem PySem.Challenge.cw_kq0056_01_holds : PySem.Challenge.rw_kq0056_01.Holds :=
  Mine.body
