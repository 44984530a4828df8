import PyProof.Rows.All
import Wide.All
import OpenK.AllK
import Wide.FinOn
import Lean
import PySem.Challenge.RW_ta0059_01
open PySem PySem.W PyProof.Rows
set_option Elab.async false
set_option maxRecDepth 100000
set_option compiler.extract_closed false
set_option tactic.hygienic false
set_option genSizeOf false
set_option genInjectivity false
set_option linter.all false
namespace Mine
local macro_rules
  | `(tactic| omega) => `(tactic| first | lia | omega (config := {}))
set_option maxHeartbeats 8000000
noncomputable abbrev mkS (l : List Nat) : Str := ⟨l.toArray⟩
noncomputable def biList : List (Str × Value) := [("len", .builtin "len"), ("range", .type "range"), ("divmod", .builtin "divmod"), ("reversed", .type "reversed"), ("iter", .builtin "iter"), ("next", .builtin "next"),
  ("zip", .type "zip"), ("enumerate", .type "enumerate"), ("min", .builtin "min"), ("max", .builtin "max"), ("sum", .builtin "sum"), ("StopIteration", .type "StopIteration")]
noncomputable def defList : List (Addr × Nat × Addr) := [(21, 2, 20), (28, 5, 27), (35, 6, 34), (42, 7, 41), (49, 8, 48), (56, 9, 55), (63, 10, 62), (70, 12, 69), (80, 65, 79), (87, 66, 86), (94, 67, 93), (101, 69, 100), (106, 70, 105), (113, 71, 112), (118, 72, 117), (123, 73, 122)]
noncomputable def nameList : List (Str × Addr) := [("_ellipsis_match", 21), ("_div2n1n", 28), ("_div3n2n", 35), ("_int2digits", 42), ("_digits2int", 49), ("_divmod_pos", 56), ("int_divmod", 63), ("_parse_varint", 70), ("EXACT_TOKEN_TYPES", 71),
  ("ISTERMINAL", 80), ("ISNONTERMINAL", 87), ("ISEOF", 94), ("_law_symbols", 101), ("_law_kept", 106), ("_law_steps", 113), ("_law_proved", 118)]
noncomputable def numList : List (Str × Int) := [("_DIV_LIMIT", 4000), ("ENDMARKER", 0), ("NT_OFFSET", 256)]
noncomputable def toks : List (Str × Int) := [(mkS [33], 54), (mkS [33, 61], 28), (mkS [37], 24), (mkS [37, 61], 40), (mkS [38], 19), (mkS [38, 61], 41), (mkS [40], 7), (mkS [41], 8), (mkS [42], 16), (mkS [42, 42], 35), (mkS [42, 42, 61], 46), (mkS [42, 61], 38), (mkS [43], 14), (mkS [43, 61], 36), (mkS [44], 12), (mkS [45], 15), (mkS [45, 61], 37), (mkS [45, 62], 51), (mkS [46], 23), (mkS [46, 46, 46], 52), (mkS [47], 17), (mkS [47, 47], 47), (mkS [47, 47, 61], 48), (mkS [47, 61], 39), (mkS [58], 11), (mkS [58, 61], 53), (mkS [59], 13), (mkS [60], 20), (mkS [60, 60], 33), (mkS [60, 60, 61], 44), (mkS [60, 61], 29), (mkS [61], 22), (mkS [61, 61], 27), (mkS [62], 21), (mkS [62, 61], 30), (mkS [62, 62], 34), (mkS [62, 62, 61], 45), (mkS [64], 49), (mkS [64, 61], 50), (mkS [91], 9), (mkS [93], 10), (mkS [94], 32), (mkS [94, 61], 43), (mkS [123], 25), (mkS [124], 18), (mkS [124, 61], 42), (mkS [125], 26), (mkS [126], 31)]
noncomputable def hkFn (h : Heap) (a : Addr) : Option (Value × Value) := match h.get? a with
  | some o => (match o.data with | .func fd => some (fd.code, fd.doc) | _ => none)
  | none => none
noncomputable def hkTab (h : Heap) (c : Addr) : Option Value := match h.get? c with
  | some o => (match o.data with | .fields vs => vs[11]? | _ => none)
  | none => none
noncomputable def vStr : Value → Option Str
  | .str s _ => some s
  | _ => none
noncomputable def vInt : Value → Option Int
  | .int i _ => some i
  | _ => none
noncomputable def hkDict (h : Heap) : Option (Value × Option Addr × Array (Option Value) × Option (List (Int × Option Str × Option Int))) := (h.get? 71).map fun o =>
  (o.cls, o.dict, o.slots, match o.data with | .dict es _ => some (es.toList.map fun e => (e.hash, vStr e.key, vInt e.val)) | _ => none)
noncomputable def defNames : List (Str × Addr) := ("law", 123) :: nameList
noncomputable abbrev HKα : Type := (Bool × Bool) × List (Option Value) × List (Option (Option Int)) × Option (Option Str) × List (Option Value × Option Value) × List (Option (Value × Value)) × List (Option Value) × Option (Value × Option Addr × Array (Option Value) × Option (List (Int × Option Str × Option Int)))
noncomputable def hkObs (s : Shared) : HKα := ((s.heap.isNs mainGlobals, s.heap.isNs builtinsNs), defNames.map (fun p => s.heap.nsMap mainGlobals p.1), numList.map (fun p => (s.heap.nsMap mainGlobals p.1).map vInt), (s.heap.nsMap mainGlobals "ELLIPSIS_MARKER").map vStr,
  biList.map (fun p => (s.heap.nsMap mainGlobals p.1, s.heap.nsMap builtinsNs p.1)), defList.map (fun p => hkFn s.heap p.1), [hkTab s.heap 41, hkTab s.heap 48], hkDict s.heap)
noncomputable def hkVal (w : World) : HKα := ((true, true), defNames.map (fun p => some (.ref p.2)), numList.map (fun p => some (some p.2)), some (some (mkS [46, 46, 46])),
  biList.map (fun p => (none, some p.2)), defList.map (fun p => some (.ref p.2.2, .none)), [some (.ref 37), some (.ref 44)], some (.type "dict", none, #[], some (toks.map fun p => (PyData.keyHash w.params p.1, some p.1, some p.2))))
theorem at0 : Str.ofString "" = ⟨⟨[]⟩⟩ := rfl
theorem at1 : Str.ofString "!" = ⟨⟨[33]⟩⟩ := rfl
theorem at2 : Str.ofString "!=" = ⟨⟨[33, 61]⟩⟩ := rfl
theorem at3 : Str.ofString "%" = ⟨⟨[37]⟩⟩ := rfl
theorem at4 : Str.ofString "%=" = ⟨⟨[37, 61]⟩⟩ := rfl
theorem at5 : Str.ofString "&" = ⟨⟨[38]⟩⟩ := rfl
theorem at6 : Str.ofString "&=" = ⟨⟨[38, 61]⟩⟩ := rfl
theorem at7 : Str.ofString "(" = ⟨⟨[40]⟩⟩ := rfl
theorem at8 : Str.ofString "()[]:,;+-*/|&<>=%{}~^@!" = ⟨⟨[40, 41, 91, 93, 58, 44, 59, 43, 45, 42, 47, 124, 38, 60, 62, 61, 37, 123, 125, 126, 94, 64, 33]⟩⟩ := rfl
theorem at9 : Str.ofString ")" = ⟨⟨[41]⟩⟩ := rfl
theorem at10 : Str.ofString "*" = ⟨⟨[42]⟩⟩ := rfl
theorem at11 : Str.ofString "**" = ⟨⟨[42, 42]⟩⟩ := rfl
theorem at12 : Str.ofString "**=" = ⟨⟨[42, 42, 61]⟩⟩ := rfl
theorem at13 : Str.ofString "*=" = ⟨⟨[42, 61]⟩⟩ := rfl
theorem at14 : Str.ofString "+" = ⟨⟨[43]⟩⟩ := rfl
theorem at15 : Str.ofString "+=" = ⟨⟨[43, 61]⟩⟩ := rfl
theorem at16 : Str.ofString "," = ⟨⟨[44]⟩⟩ := rfl
theorem at17 : Str.ofString "-" = ⟨⟨[45]⟩⟩ := rfl
theorem at18 : Str.ofString "-=" = ⟨⟨[45, 61]⟩⟩ := rfl
theorem at19 : Str.ofString "->" = ⟨⟨[45, 62]⟩⟩ := rfl
theorem at20 : Str.ofString "." = ⟨⟨[46]⟩⟩ := rfl
theorem at21 : Str.ofString "..." = ⟨⟨[46, 46, 46]⟩⟩ := rfl
theorem at22 : Str.ofString ".0" = ⟨⟨[46, 48]⟩⟩ := rfl
theorem at23 : Str.ofString "/" = ⟨⟨[47]⟩⟩ := rfl
theorem at24 : Str.ofString "//" = ⟨⟨[47, 47]⟩⟩ := rfl
theorem at25 : Str.ofString "//=" = ⟨⟨[47, 47, 61]⟩⟩ := rfl
theorem at26 : Str.ofString "/=" = ⟨⟨[47, 61]⟩⟩ := rfl
theorem at27 : Str.ofString "/claim/cut.py" = ⟨⟨[47, 99, 108, 97, 105, 109, 47, 99, 117, 116, 46, 112, 121]⟩⟩ := rfl
theorem at28 : Str.ofString ":" = ⟨⟨[58]⟩⟩ := rfl
theorem at29 : Str.ofString ":=" = ⟨⟨[58, 61]⟩⟩ := rfl
theorem at30 : Str.ofString ";" = ⟨⟨[59]⟩⟩ := rfl
theorem at31 : Str.ofString "<" = ⟨⟨[60]⟩⟩ := rfl
theorem at32 : Str.ofString "<<" = ⟨⟨[60, 60]⟩⟩ := rfl
theorem at33 : Str.ofString "<<=" = ⟨⟨[60, 60, 61]⟩⟩ := rfl
theorem at34 : Str.ofString "<=" = ⟨⟨[60, 61]⟩⟩ := rfl
theorem at35 : Str.ofString "=" = ⟨⟨[61]⟩⟩ := rfl
theorem at36 : Str.ofString "==" = ⟨⟨[61, 61]⟩⟩ := rfl
theorem at37 : Str.ofString ">" = ⟨⟨[62]⟩⟩ := rfl
theorem at38 : Str.ofString ">=" = ⟨⟨[62, 61]⟩⟩ := rfl
theorem at39 : Str.ofString ">>" = ⟨⟨[62, 62]⟩⟩ := rfl
theorem at40 : Str.ofString ">>=" = ⟨⟨[62, 62, 61]⟩⟩ := rfl
theorem at41 : Str.ofString "@" = ⟨⟨[64]⟩⟩ := rfl
theorem at42 : Str.ofString "@=" = ⟨⟨[64, 61]⟩⟩ := rfl
theorem at43 : Str.ofString "AMPER" = ⟨⟨[65, 77, 80, 69, 82]⟩⟩ := rfl
theorem at44 : Str.ofString "AMPEREQUAL" = ⟨⟨[65, 77, 80, 69, 82, 69, 81, 85, 65, 76]⟩⟩ := rfl
theorem at45 : Str.ofString "AT" = ⟨⟨[65, 84]⟩⟩ := rfl
theorem at46 : Str.ofString "ATEQUAL" = ⟨⟨[65, 84, 69, 81, 85, 65, 76]⟩⟩ := rfl
theorem at47 : Str.ofString "CIRCUMFLEX" = ⟨⟨[67, 73, 82, 67, 85, 77, 70, 76, 69, 88]⟩⟩ := rfl
theorem at48 : Str.ofString "CIRCUMFLEXEQUAL" = ⟨⟨[67, 73, 82, 67, 85, 77, 70, 76, 69, 88, 69, 81, 85, 65, 76]⟩⟩ := rfl
theorem at49 : Str.ofString "COLON" = ⟨⟨[67, 79, 76, 79, 78]⟩⟩ := rfl
theorem at50 : Str.ofString "COLONEQUAL" = ⟨⟨[67, 79, 76, 79, 78, 69, 81, 85, 65, 76]⟩⟩ := rfl
theorem at51 : Str.ofString "COMMA" = ⟨⟨[67, 79, 77, 77, 65]⟩⟩ := rfl
theorem at52 : Str.ofString "DOT" = ⟨⟨[68, 79, 84]⟩⟩ := rfl
theorem at53 : Str.ofString "DOUBLESLASH" = ⟨⟨[68, 79, 85, 66, 76, 69, 83, 76, 65, 83, 72]⟩⟩ := rfl
theorem at54 : Str.ofString "DOUBLESLASHEQUAL" = ⟨⟨[68, 79, 85, 66, 76, 69, 83, 76, 65, 83, 72, 69, 81, 85, 65, 76]⟩⟩ := rfl
theorem at55 : Str.ofString "DOUBLESTAR" = ⟨⟨[68, 79, 85, 66, 76, 69, 83, 84, 65, 82]⟩⟩ := rfl
theorem at56 : Str.ofString "DOUBLESTAREQUAL" = ⟨⟨[68, 79, 85, 66, 76, 69, 83, 84, 65, 82, 69, 81, 85, 65, 76]⟩⟩ := rfl
theorem at57 : Str.ofString "ELLIPSIS" = ⟨⟨[69, 76, 76, 73, 80, 83, 73, 83]⟩⟩ := rfl
theorem at58 : Str.ofString "ELLIPSIS_MARKER" = ⟨⟨[69, 76, 76, 73, 80, 83, 73, 83, 95, 77, 65, 82, 75, 69, 82]⟩⟩ := rfl
theorem at59 : Str.ofString "ENDMARKER" = ⟨⟨[69, 78, 68, 77, 65, 82, 75, 69, 82]⟩⟩ := rfl
theorem at60 : Str.ofString "EQEQUAL" = ⟨⟨[69, 81, 69, 81, 85, 65, 76]⟩⟩ := rfl
theorem at61 : Str.ofString "EQUAL" = ⟨⟨[69, 81, 85, 65, 76]⟩⟩ := rfl
theorem at62 : Str.ofString "EXACT_TOKEN_TYPES" = ⟨⟨[69, 88, 65, 67, 84, 95, 84, 79, 75, 69, 78, 95, 84, 89, 80, 69, 83]⟩⟩ := rfl
theorem at63 : Str.ofString "EXCLAMATION" = ⟨⟨[69, 88, 67, 76, 65, 77, 65, 84, 73, 79, 78]⟩⟩ := rfl
theorem at64 : Str.ofString "GREATER" = ⟨⟨[71, 82, 69, 65, 84, 69, 82]⟩⟩ := rfl
theorem at65 : Str.ofString "GREATEREQUAL" = ⟨⟨[71, 82, 69, 65, 84, 69, 82, 69, 81, 85, 65, 76]⟩⟩ := rfl
theorem at66 : Str.ofString "ISEOF" = ⟨⟨[73, 83, 69, 79, 70]⟩⟩ := rfl
theorem at67 : Str.ofString "ISNONTERMINAL" = ⟨⟨[73, 83, 78, 79, 78, 84, 69, 82, 77, 73, 78, 65, 76]⟩⟩ := rfl
theorem at68 : Str.ofString "ISTERMINAL" = ⟨⟨[73, 83, 84, 69, 82, 77, 73, 78, 65, 76]⟩⟩ := rfl
theorem at69 : Str.ofString "L" = ⟨⟨[76]⟩⟩ := rfl
theorem at70 : Str.ofString "LBRACE" = ⟨⟨[76, 66, 82, 65, 67, 69]⟩⟩ := rfl
theorem at71 : Str.ofString "LEFTSHIFT" = ⟨⟨[76, 69, 70, 84, 83, 72, 73, 70, 84]⟩⟩ := rfl
theorem at72 : Str.ofString "LEFTSHIFTEQUAL" = ⟨⟨[76, 69, 70, 84, 83, 72, 73, 70, 84, 69, 81, 85, 65, 76]⟩⟩ := rfl
theorem at73 : Str.ofString "LESS" = ⟨⟨[76, 69, 83, 83]⟩⟩ := rfl
theorem at74 : Str.ofString "LESSEQUAL" = ⟨⟨[76, 69, 83, 83, 69, 81, 85, 65, 76]⟩⟩ := rfl
theorem at75 : Str.ofString "LPAR" = ⟨⟨[76, 80, 65, 82]⟩⟩ := rfl
theorem at76 : Str.ofString "LSQB" = ⟨⟨[76, 83, 81, 66]⟩⟩ := rfl
theorem at77 : Str.ofString "MINEQUAL" = ⟨⟨[77, 73, 78, 69, 81, 85, 65, 76]⟩⟩ := rfl
theorem at78 : Str.ofString "MINUS" = ⟨⟨[77, 73, 78, 85, 83]⟩⟩ := rfl
theorem at79 : Str.ofString "NOTEQUAL" = ⟨⟨[78, 79, 84, 69, 81, 85, 65, 76]⟩⟩ := rfl
theorem at80 : Str.ofString "NT_OFFSET" = ⟨⟨[78, 84, 95, 79, 70, 70, 83, 69, 84]⟩⟩ := rfl
theorem at81 : Str.ofString "PERCENT" = ⟨⟨[80, 69, 82, 67, 69, 78, 84]⟩⟩ := rfl
theorem at82 : Str.ofString "PERCENTEQUAL" = ⟨⟨[80, 69, 82, 67, 69, 78, 84, 69, 81, 85, 65, 76]⟩⟩ := rfl
theorem at83 : Str.ofString "PLUS" = ⟨⟨[80, 76, 85, 83]⟩⟩ := rfl
theorem at84 : Str.ofString "PLUSEQUAL" = ⟨⟨[80, 76, 85, 83, 69, 81, 85, 65, 76]⟩⟩ := rfl
theorem at85 : Str.ofString "R" = ⟨⟨[82]⟩⟩ := rfl
theorem at86 : Str.ofString "RARROW" = ⟨⟨[82, 65, 82, 82, 79, 87]⟩⟩ := rfl
theorem at87 : Str.ofString "RBRACE" = ⟨⟨[82, 66, 82, 65, 67, 69]⟩⟩ := rfl
theorem at88 : Str.ofString "RIGHTSHIFT" = ⟨⟨[82, 73, 71, 72, 84, 83, 72, 73, 70, 84]⟩⟩ := rfl
theorem at89 : Str.ofString "RIGHTSHIFTEQUAL" = ⟨⟨[82, 73, 71, 72, 84, 83, 72, 73, 70, 84, 69, 81, 85, 65, 76]⟩⟩ := rfl
theorem at90 : Str.ofString "RPAR" = ⟨⟨[82, 80, 65, 82]⟩⟩ := rfl
theorem at91 : Str.ofString "RSQB" = ⟨⟨[82, 83, 81, 66]⟩⟩ := rfl
theorem at92 : Str.ofString "SEMI" = ⟨⟨[83, 69, 77, 73]⟩⟩ := rfl
theorem at93 : Str.ofString "SLASH" = ⟨⟨[83, 76, 65, 83, 72]⟩⟩ := rfl
theorem at94 : Str.ofString "SLASHEQUAL" = ⟨⟨[83, 76, 65, 83, 72, 69, 81, 85, 65, 76]⟩⟩ := rfl
theorem at95 : Str.ofString "STAR" = ⟨⟨[83, 84, 65, 82]⟩⟩ := rfl
theorem at96 : Str.ofString "STAREQUAL" = ⟨⟨[83, 84, 65, 82, 69, 81, 85, 65, 76]⟩⟩ := rfl
theorem at97 : Str.ofString "StopIteration" = ⟨⟨[83, 116, 111, 112, 73, 116, 101, 114, 97, 116, 105, 111, 110]⟩⟩ := rfl
theorem at98 : Str.ofString "TILDE" = ⟨⟨[84, 73, 76, 68, 69]⟩⟩ := rfl
theorem at99 : Str.ofString "VBAR" = ⟨⟨[86, 66, 65, 82]⟩⟩ := rfl
theorem at100 : Str.ofString "VBAREQUAL" = ⟨⟨[86, 66, 65, 82, 69, 81, 85, 65, 76]⟩⟩ := rfl
theorem at101 : Str.ofString "ZeroDivisionError" = ⟨⟨[90, 101, 114, 111, 68, 105, 118, 105, 115, 105, 111, 110, 69, 114, 114, 111, 114]⟩⟩ := rfl
theorem at102 : Str.ofString "[" = ⟨⟨[91]⟩⟩ := rfl
theorem at103 : Str.ofString "]" = ⟨⟨[93]⟩⟩ := rfl
theorem at104 : Str.ofString "^" = ⟨⟨[94]⟩⟩ := rfl
theorem at105 : Str.ofString "^=" = ⟨⟨[94, 61]⟩⟩ := rfl
theorem at106 : Str.ofString "_DIV_LIMIT" = ⟨⟨[95, 68, 73, 86, 95, 76, 73, 77, 73, 84]⟩⟩ := rfl
theorem at107 : Str.ofString "__name__" = ⟨⟨[95, 95, 110, 97, 109, 101, 95, 95]⟩⟩ := rfl
theorem at108 : Str.ofString "_digits2int" = ⟨⟨[95, 100, 105, 103, 105, 116, 115, 50, 105, 110, 116]⟩⟩ := rfl
theorem at109 : Str.ofString "_div2n1n" = ⟨⟨[95, 100, 105, 118, 50, 110, 49, 110]⟩⟩ := rfl
theorem at110 : Str.ofString "_div3n2n" = ⟨⟨[95, 100, 105, 118, 51, 110, 50, 110]⟩⟩ := rfl
theorem at111 : Str.ofString "_divmod_pos" = ⟨⟨[95, 100, 105, 118, 109, 111, 100, 95, 112, 111, 115]⟩⟩ := rfl
theorem at112 : Str.ofString "_ellipsis_match" = ⟨⟨[95, 101, 108, 108, 105, 112, 115, 105, 115, 95, 109, 97, 116, 99, 104]⟩⟩ := rfl
theorem at113 : Str.ofString "_int2digits" = ⟨⟨[95, 105, 110, 116, 50, 100, 105, 103, 105, 116, 115]⟩⟩ := rfl
theorem at114 : Str.ofString "_law_kept" = ⟨⟨[95, 108, 97, 119, 95, 107, 101, 112, 116]⟩⟩ := rfl
theorem at115 : Str.ofString "_law_proved" = ⟨⟨[95, 108, 97, 119, 95, 112, 114, 111, 118, 101, 100]⟩⟩ := rfl
theorem at116 : Str.ofString "_law_steps" = ⟨⟨[95, 108, 97, 119, 95, 115, 116, 101, 112, 115]⟩⟩ := rfl
theorem at117 : Str.ofString "_law_symbols" = ⟨⟨[95, 108, 97, 119, 95, 115, 121, 109, 98, 111, 108, 115]⟩⟩ := rfl
theorem at118 : Str.ofString "_parse_varint" = ⟨⟨[95, 112, 97, 114, 115, 101, 95, 118, 97, 114, 105, 110, 116]⟩⟩ := rfl
theorem at119 : Str.ofString "a" = ⟨⟨[97]⟩⟩ := rfl
theorem at120 : Str.ofString "a12" = ⟨⟨[97, 49, 50]⟩⟩ := rfl
theorem at121 : Str.ofString "a3" = ⟨⟨[97, 51]⟩⟩ := rfl
theorem at122 : Str.ofString "a_digit" = ⟨⟨[97, 95, 100, 105, 103, 105, 116]⟩⟩ := rfl
theorem at123 : Str.ofString "a_digits" = ⟨⟨[97, 95, 100, 105, 103, 105, 116, 115]⟩⟩ := rfl
theorem at124 : Str.ofString "after" = ⟨⟨[97, 102, 116, 101, 114]⟩⟩ := rfl
theorem at125 : Str.ofString "ahead" = ⟨⟨[97, 104, 101, 97, 100]⟩⟩ := rfl
theorem at126 : Str.ofString "append" = ⟨⟨[97, 112, 112, 101, 110, 100]⟩⟩ := rfl
theorem at127 : Str.ofString "b" = ⟨⟨[98]⟩⟩ := rfl
theorem at128 : Str.ofString "b1" = ⟨⟨[98, 49]⟩⟩ := rfl
theorem at129 : Str.ofString "b2" = ⟨⟨[98, 50]⟩⟩ := rfl
theorem at130 : Str.ofString "base" = ⟨⟨[98, 97, 115, 101]⟩⟩ := rfl
theorem at131 : Str.ofString "behind" = ⟨⟨[98, 101, 104, 105, 110, 100]⟩⟩ := rfl
theorem at132 : Str.ofString "bit_length" = ⟨⟨[98, 105, 116, 95, 108, 101, 110, 103, 116, 104]⟩⟩ := rfl
theorem at133 : Str.ofString "code" = ⟨⟨[99, 111, 100, 101]⟩⟩ := rfl
theorem at134 : Str.ofString "codes" = ⟨⟨[99, 111, 100, 101, 115]⟩⟩ := rfl
theorem at135 : Str.ofString "count" = ⟨⟨[99, 111, 117, 110, 116]⟩⟩ := rfl
theorem at136 : Str.ofString "cpy313._pylong" = ⟨⟨[99, 112, 121, 51, 49, 51, 46, 95, 112, 121, 108, 111, 110, 103]⟩⟩ := rfl
theorem at137 : Str.ofString "cpy313.dis" = ⟨⟨[99, 112, 121, 51, 49, 51, 46, 100, 105, 115]⟩⟩ := rfl
theorem at138 : Str.ofString "cpy313.doctest" = ⟨⟨[99, 112, 121, 51, 49, 51, 46, 100, 111, 99, 116, 101, 115, 116]⟩⟩ := rfl
theorem at139 : Str.ofString "cpy313.token" = ⟨⟨[99, 112, 121, 51, 49, 51, 46, 116, 111, 107, 101, 110]⟩⟩ := rfl
theorem at140 : Str.ofString "digits" = ⟨⟨[100, 105, 103, 105, 116, 115]⟩⟩ := rfl
theorem at141 : Str.ofString "divmod" = ⟨⟨[100, 105, 118, 109, 111, 100]⟩⟩ := rfl
theorem at142 : Str.ofString "due" = ⟨⟨[100, 117, 101]⟩⟩ := rfl
theorem at143 : Str.ofString "endpos" = ⟨⟨[101, 110, 100, 112, 111, 115]⟩⟩ := rfl
theorem at144 : Str.ofString "endswith" = ⟨⟨[101, 110, 100, 115, 119, 105, 116, 104]⟩⟩ := rfl
theorem at145 : Str.ofString "enumerate" = ⟨⟨[101, 110, 117, 109, 101, 114, 97, 116, 101]⟩⟩ := rfl
theorem at146 : Str.ofString "fast" = ⟨⟨[102, 97, 115, 116]⟩⟩ := rfl
theorem at147 : Str.ofString "figures" = ⟨⟨[102, 105, 103, 117, 114, 101, 115]⟩⟩ := rfl
theorem at148 : Str.ofString "find" = ⟨⟨[102, 105, 110, 100]⟩⟩ := rfl
theorem at149 : Str.ofString "good" = ⟨⟨[103, 111, 111, 100]⟩⟩ := rfl
theorem at150 : Str.ofString "got" = ⟨⟨[103, 111, 116]⟩⟩ := rfl
theorem at151 : Str.ofString "half_n" = ⟨⟨[104, 97, 108, 102, 95, 110]⟩⟩ := rfl
theorem at152 : Str.ofString "head" = ⟨⟨[104, 101, 97, 100]⟩⟩ := rfl
theorem at153 : Str.ofString "inner" = ⟨⟨[105, 110, 110, 101, 114]⟩⟩ := rfl
theorem at154 : Str.ofString "int_divmod" = ⟨⟨[105, 110, 116, 95, 100, 105, 118, 109, 111, 100]⟩⟩ := rfl
theorem at155 : Str.ofString "into" = ⟨⟨[105, 110, 116, 111]⟩⟩ := rfl
theorem at156 : Str.ofString "iter" = ⟨⟨[105, 116, 101, 114]⟩⟩ := rfl
theorem at157 : Str.ofString "iterator" = ⟨⟨[105, 116, 101, 114, 97, 116, 111, 114]⟩⟩ := rfl
theorem at158 : Str.ofString "j" = ⟨⟨[106]⟩⟩ := rfl
theorem at159 : Str.ofString "join" = ⟨⟨[106, 111, 105, 110]⟩⟩ := rfl
theorem at160 : Str.ofString "k" = ⟨⟨[107]⟩⟩ := rfl
theorem at161 : Str.ofString "kind" = ⟨⟨[107, 105, 110, 100]⟩⟩ := rfl
theorem at162 : Str.ofString "kinds" = ⟨⟨[107, 105, 110, 100, 115]⟩⟩ := rfl
theorem at163 : Str.ofString "knot" = ⟨⟨[107, 110, 111, 116]⟩⟩ := rfl
theorem at164 : Str.ofString "law" = ⟨⟨[108, 97, 119]⟩⟩ := rfl
theorem at165 : Str.ofString "law_ta0059_01" = ⟨⟨[108, 97, 119, 95, 116, 97, 48, 48, 53, 57, 95, 48, 49]⟩⟩ := rfl
theorem at166 : Str.ofString "len" = ⟨⟨[108, 101, 110]⟩⟩ := rfl
theorem at167 : Str.ofString "low" = ⟨⟨[108, 111, 119]⟩⟩ := rfl
theorem at168 : Str.ofString "lower" = ⟨⟨[108, 111, 119, 101, 114]⟩⟩ := rfl
theorem at169 : Str.ofString "m" = ⟨⟨[109]⟩⟩ := rfl
theorem at170 : Str.ofString "mask" = ⟨⟨[109, 97, 115, 107]⟩⟩ := rfl
theorem at171 : Str.ofString "max" = ⟨⟨[109, 97, 120]⟩⟩ := rfl
theorem at172 : Str.ofString "mid" = ⟨⟨[109, 105, 100]⟩⟩ := rfl
theorem at173 : Str.ofString "middle" = ⟨⟨[109, 105, 100, 100, 108, 101]⟩⟩ := rfl
theorem at174 : Str.ofString "min" = ⟨⟨[109, 105, 110]⟩⟩ := rfl
theorem at175 : Str.ofString "more" = ⟨⟨[109, 111, 114, 101]⟩⟩ := rfl
theorem at176 : Str.ofString "n" = ⟨⟨[110]⟩⟩ := rfl
theorem at177 : Str.ofString "next" = ⟨⟨[110, 101, 120, 116]⟩⟩ := rfl
theorem at178 : Str.ofString "number" = ⟨⟨[110, 117, 109, 98, 101, 114]⟩⟩ := rfl
theorem at179 : Str.ofString "numbers" = ⟨⟨[110, 117, 109, 98, 101, 114, 115]⟩⟩ := rfl
theorem at180 : Str.ofString "octet" = ⟨⟨[111, 99, 116, 101, 116]⟩⟩ := rfl
theorem at181 : Str.ofString "octets" = ⟨⟨[111, 99, 116, 101, 116, 115]⟩⟩ := rfl
theorem at182 : Str.ofString "one" = ⟨⟨[111, 110, 101]⟩⟩ := rfl
theorem at183 : Str.ofString "p" = ⟨⟨[112]⟩⟩ := rfl
theorem at184 : Str.ofString "pad" = ⟨⟨[112, 97, 100]⟩⟩ := rfl
theorem at185 : Str.ofString "pairs" = ⟨⟨[112, 97, 105, 114, 115]⟩⟩ := rfl
theorem at186 : Str.ofString "patterns" = ⟨⟨[112, 97, 116, 116, 101, 114, 110, 115]⟩⟩ := rfl
theorem at187 : Str.ofString "place" = ⟨⟨[112, 108, 97, 99, 101]⟩⟩ := rfl
theorem at188 : Str.ofString "pool" = ⟨⟨[112, 111, 111, 108]⟩⟩ := rfl
theorem at189 : Str.ofString "powers" = ⟨⟨[112, 111, 119, 101, 114, 115]⟩⟩ := rfl
theorem at190 : Str.ofString "proof" = ⟨⟨[112, 114, 111, 111, 102]⟩⟩ := rfl
theorem at191 : Str.ofString "put" = ⟨⟨[112, 117, 116]⟩⟩ := rfl
theorem at192 : Str.ofString "q" = ⟨⟨[113]⟩⟩ := rfl
theorem at193 : Str.ofString "q1" = ⟨⟨[113, 49]⟩⟩ := rfl
theorem at194 : Str.ofString "q2" = ⟨⟨[113, 50]⟩⟩ := rfl
theorem at195 : Str.ofString "q_digit" = ⟨⟨[113, 95, 100, 105, 103, 105, 116]⟩⟩ := rfl
theorem at196 : Str.ofString "q_digits" = ⟨⟨[113, 95, 100, 105, 103, 105, 116, 115]⟩⟩ := rfl
theorem at197 : Str.ofString "r" = ⟨⟨[114]⟩⟩ := rfl
theorem at198 : Str.ofString "range" = ⟨⟨[114, 97, 110, 103, 101]⟩⟩ := rfl
theorem at199 : Str.ofString "read" = ⟨⟨[114, 101, 97, 100]⟩⟩ := rfl
theorem at200 : Str.ofString "replace" = ⟨⟨[114, 101, 112, 108, 97, 99, 101]⟩⟩ := rfl
theorem at201 : Str.ofString "rest" = ⟨⟨[114, 101, 115, 116]⟩⟩ := rfl
theorem at202 : Str.ofString "rests" = ⟨⟨[114, 101, 115, 116, 115]⟩⟩ := rfl
theorem at203 : Str.ofString "reverse" = ⟨⟨[114, 101, 118, 101, 114, 115, 101]⟩⟩ := rfl
theorem at204 : Str.ofString "reversed" = ⟨⟨[114, 101, 118, 101, 114, 115, 101, 100]⟩⟩ := rfl
theorem at205 : Str.ofString "rule" = ⟨⟨[114, 117, 108, 101]⟩⟩ := rfl
theorem at206 : Str.ofString "script" = ⟨⟨[115, 99, 114, 105, 112, 116]⟩⟩ := rfl
theorem at207 : Str.ofString "seen" = ⟨⟨[115, 101, 101, 110]⟩⟩ := rfl
theorem at208 : Str.ofString "shift" = ⟨⟨[115, 104, 105, 102, 116]⟩⟩ := rfl
theorem at209 : Str.ofString "sign" = ⟨⟨[115, 105, 103, 110]⟩⟩ := rfl
theorem at210 : Str.ofString "size" = ⟨⟨[115, 105, 122, 101]⟩⟩ := rfl
theorem at211 : Str.ofString "split" = ⟨⟨[115, 112, 108, 105, 116]⟩⟩ := rfl
theorem at212 : Str.ofString "spot" = ⟨⟨[115, 112, 111, 116]⟩⟩ := rfl
theorem at213 : Str.ofString "spots" = ⟨⟨[115, 112, 111, 116, 115]⟩⟩ := rfl
theorem at214 : Str.ofString "startpos" = ⟨⟨[115, 116, 97, 114, 116, 112, 111, 115]⟩⟩ := rfl
theorem at215 : Str.ofString "startswith" = ⟨⟨[115, 116, 97, 114, 116, 115, 119, 105, 116, 104]⟩⟩ := rfl
theorem at216 : Str.ofString "steps" = ⟨⟨[115, 116, 101, 112, 115]⟩⟩ := rfl
theorem at217 : Str.ofString "stroke" = ⟨⟨[115, 116, 114, 111, 107, 101]⟩⟩ := rfl
theorem at218 : Str.ofString "sum" = ⟨⟨[115, 117, 109]⟩⟩ := rfl
theorem at219 : Str.ofString "symbols" = ⟨⟨[115, 121, 109, 98, 111, 108, 115]⟩⟩ := rfl
theorem at220 : Str.ofString "text" = ⟨⟨[116, 101, 120, 116]⟩⟩ := rfl
theorem at221 : Str.ofString "told" = ⟨⟨[116, 111, 108, 100]⟩⟩ := rfl
theorem at222 : Str.ofString "turn" = ⟨⟨[116, 117, 114, 110]⟩⟩ := rfl
theorem at223 : Str.ofString "two" = ⟨⟨[116, 119, 111]⟩⟩ := rfl
theorem at224 : Str.ofString "twos" = ⟨⟨[116, 119, 111, 115]⟩⟩ := rfl
theorem at225 : Str.ofString "upper" = ⟨⟨[117, 112, 112, 101, 114]⟩⟩ := rfl
theorem at226 : Str.ofString "val" = ⟨⟨[118, 97, 108]⟩⟩ := rfl
theorem at227 : Str.ofString "verdicts" = ⟨⟨[118, 101, 114, 100, 105, 99, 116, 115]⟩⟩ := rfl
theorem at228 : Str.ofString "w" = ⟨⟨[119]⟩⟩ := rfl
theorem at229 : Str.ofString "want" = ⟨⟨[119, 97, 110, 116]⟩⟩ := rfl
theorem at230 : Str.ofString "ws" = ⟨⟨[119, 115]⟩⟩ := rfl
theorem at231 : Str.ofString "x" = ⟨⟨[120]⟩⟩ := rfl
theorem at232 : Str.ofString "zip" = ⟨⟨[122, 105, 112]⟩⟩ := rfl
theorem at233 : Str.ofString "{" = ⟨⟨[123]⟩⟩ := rfl
theorem at234 : Str.ofString "|" = ⟨⟨[124]⟩⟩ := rfl
theorem at235 : Str.ofString "|=" = ⟨⟨[124, 61]⟩⟩ := rfl
theorem at236 : Str.ofString "}" = ⟨⟨[125]⟩⟩ := rfl
theorem at237 : Str.ofString "~" = ⟨⟨[126]⟩⟩ := rfl
noncomputable def keep : List Nat := [2, 5, 6, 7, 8, 9, 10, 12, 65, 66, 67, 69, 70, 71, 72, 73]
noncomputable def looseL : List Str := [mkS [69, 76, 76, 73, 80, 83, 73, 83, 95, 77, 65, 82, 75, 69, 82], mkS [95, 68, 73, 86, 95, 76, 73, 77, 73, 84], mkS [69, 78, 68, 77, 65, 82, 75, 69, 82], mkS [76, 80, 65, 82], mkS [82, 80, 65, 82], mkS [76, 83, 81, 66], mkS [82, 83, 81, 66], mkS [67, 79, 76, 79, 78], mkS [67, 79, 77, 77, 65], mkS [83, 69, 77, 73], mkS [80, 76, 85, 83], mkS [77, 73, 78, 85, 83], mkS [83, 84, 65, 82], mkS [83, 76, 65, 83, 72], mkS [86, 66, 65, 82], mkS [65, 77, 80, 69, 82], mkS [76, 69, 83, 83], mkS [71, 82, 69, 65, 84, 69, 82], mkS [69, 81, 85, 65, 76], mkS [68, 79, 84], mkS [80, 69, 82, 67, 69, 78, 84], mkS [76, 66, 82, 65, 67, 69], mkS [82, 66, 82, 65, 67, 69], mkS [69, 81, 69, 81, 85, 65, 76], mkS [78, 79, 84, 69, 81, 85, 65, 76], mkS [76, 69, 83, 83, 69, 81, 85, 65, 76], mkS [71, 82, 69, 65, 84, 69, 82, 69, 81, 85, 65, 76], mkS [84, 73, 76, 68, 69], mkS [67, 73, 82, 67, 85, 77, 70, 76, 69, 88], mkS [76, 69, 70, 84, 83, 72, 73, 70, 84], mkS [82, 73, 71, 72, 84, 83, 72, 73, 70, 84], mkS [68, 79, 85, 66, 76, 69, 83, 84, 65, 82], mkS [80, 76, 85, 83, 69, 81, 85, 65, 76], mkS [77, 73, 78, 69, 81, 85, 65, 76], mkS [83, 84, 65, 82, 69, 81, 85, 65, 76], mkS [83, 76, 65, 83, 72, 69, 81, 85, 65, 76], mkS [80, 69, 82, 67, 69, 78, 84, 69, 81, 85, 65, 76], mkS [65, 77, 80, 69, 82, 69, 81, 85, 65, 76], mkS [86, 66, 65, 82, 69, 81, 85, 65, 76], mkS [67, 73, 82, 67, 85, 77, 70, 76, 69, 88, 69, 81, 85, 65, 76], mkS [76, 69, 70, 84, 83, 72, 73, 70, 84, 69, 81, 85, 65, 76], mkS [82, 73, 71, 72, 84, 83, 72, 73, 70, 84, 69, 81, 85, 65, 76], mkS [68, 79, 85, 66, 76, 69, 83, 84, 65, 82, 69, 81, 85, 65, 76], mkS [68, 79, 85, 66, 76, 69, 83, 76, 65, 83, 72], mkS [68, 79, 85, 66, 76, 69, 83, 76, 65, 83, 72, 69, 81, 85, 65, 76], mkS [65, 84], mkS [65, 84, 69, 81, 85, 65, 76], mkS [82, 65, 82, 82, 79, 87], mkS [69, 76, 76, 73, 80, 83, 73, 83], mkS [67, 79, 76, 79, 78, 69, 81, 85, 65, 76], mkS [69, 88, 67, 76, 65, 77, 65, 84, 73, 79, 78], mkS [78, 84, 95, 79, 70, 70, 83, 69, 84], mkS [69, 88, 65, 67, 84, 95, 84, 79, 75, 69, 78, 95, 84, 89, 80, 69, 83]]
noncomputable def lawS : {l : OpenLaw // PySem.Challenge.rw_ta0059_01 = l} := by
  refine ⟨?l, ?h⟩
  case h =>
    dsimp (config := { decide := false }) only [PySem.Challenge.rw_ta0059_01, PySem.Challenge.pw_ta0059_01, Mine.at0, Mine.at1, Mine.at2, Mine.at3, Mine.at4, Mine.at5, Mine.at6, Mine.at7, Mine.at8, Mine.at9, Mine.at10, Mine.at11, Mine.at12, Mine.at13, Mine.at14, Mine.at15, Mine.at16, Mine.at17, Mine.at18, Mine.at19, Mine.at20, Mine.at21, Mine.at22, Mine.at23, Mine.at24, Mine.at25, Mine.at26, Mine.at27, Mine.at28, Mine.at29, Mine.at30, Mine.at31, Mine.at32, Mine.at33, Mine.at34, Mine.at35, Mine.at36, Mine.at37, Mine.at38, Mine.at39, Mine.at40, Mine.at41, Mine.at42, Mine.at43, Mine.at44, Mine.at45, Mine.at46, Mine.at47, Mine.at48, Mine.at49, Mine.at50, Mine.at51, Mine.at52, Mine.at53, Mine.at54, Mine.at55, Mine.at56, Mine.at57, Mine.at58, Mine.at59, Mine.at60, Mine.at61, Mine.at62, Mine.at63, Mine.at64, Mine.at65, Mine.at66, Mine.at67, Mine.at68, Mine.at69, Mine.at70, Mine.at71, Mine.at72, Mine.at73, Mine.at74, Mine.at75, Mine.at76, Mine.at77, Mine.at78, Mine.at79, Mine.at80, Mine.at81, Mine.at82, Mine.at83, Mine.at84, Mine.at85, Mine.at86, Mine.at87, Mine.at88, Mine.at89, Mine.at90, Mine.at91, Mine.at92, Mine.at93, Mine.at94, Mine.at95, Mine.at96, Mine.at97, Mine.at98, Mine.at99, Mine.at100, Mine.at101, Mine.at102, Mine.at103, Mine.at104, Mine.at105, Mine.at106, Mine.at107, Mine.at108, Mine.at109, Mine.at110, Mine.at111, Mine.at112, Mine.at113, Mine.at114, Mine.at115, Mine.at116, Mine.at117, Mine.at118, Mine.at119, Mine.at120, Mine.at121, Mine.at122, Mine.at123, Mine.at124, Mine.at125, Mine.at126, Mine.at127, Mine.at128, Mine.at129, Mine.at130, Mine.at131, Mine.at132, Mine.at133, Mine.at134, Mine.at135, Mine.at136, Mine.at137, Mine.at138, Mine.at139, Mine.at140, Mine.at141, Mine.at142, Mine.at143, Mine.at144, Mine.at145, Mine.at146, Mine.at147, Mine.at148, Mine.at149, Mine.at150, Mine.at151, Mine.at152, Mine.at153, Mine.at154, Mine.at155, Mine.at156, Mine.at157, Mine.at158, Mine.at159, Mine.at160, Mine.at161, Mine.at162, Mine.at163, Mine.at164, Mine.at165, Mine.at166, Mine.at167, Mine.at168, Mine.at169, Mine.at170, Mine.at171, Mine.at172, Mine.at173, Mine.at174, Mine.at175, Mine.at176, Mine.at177, Mine.at178, Mine.at179, Mine.at180, Mine.at181, Mine.at182, Mine.at183, Mine.at184, Mine.at185, Mine.at186, Mine.at187, Mine.at188, Mine.at189, Mine.at190, Mine.at191, Mine.at192, Mine.at193, Mine.at194, Mine.at195, Mine.at196, Mine.at197, Mine.at198, Mine.at199, Mine.at200, Mine.at201, Mine.at202, Mine.at203, Mine.at204, Mine.at205, Mine.at206, Mine.at207, Mine.at208, Mine.at209, Mine.at210, Mine.at211, Mine.at212, Mine.at213, Mine.at214, Mine.at215, Mine.at216, Mine.at217, Mine.at218, Mine.at219, Mine.at220, Mine.at221, Mine.at222, Mine.at223, Mine.at224, Mine.at225, Mine.at226, Mine.at227, Mine.at228, Mine.at229, Mine.at230, Mine.at231, Mine.at232, Mine.at233, Mine.at234, Mine.at235, Mine.at236, Mine.at237]
    exact rfl
noncomputable def rowA : OpenRow := lawS.1.row
namespace Hd
noncomputable def tpO (l : List Value) : Obj := ⟨.type "tuple", none, .seq ⟨l⟩ 0, ⟨[]⟩⟩
noncomputable def fdO (l : List Value) : Obj := ⟨.none, none, .fields ⟨l⟩, ⟨[]⟩⟩
noncomputable def cdO (l : List Value) : Obj := ⟨.type "code", none, .fields ⟨l⟩, ⟨[]⟩⟩
noncomputable def dcO (n : Nat) (l : List DictEntry) : Obj := ⟨.type "dict", none, .dict ⟨l⟩ n, ⟨[]⟩⟩
noncomputable def kd (P : Params) (s : Str) (t : Nat) (v : Value) : DictEntry := ⟨PyData.keyHash P s, .str s t, v⟩
noncomputable def stF (n : Nat) : Stmt := rowA.prog.main.body.getD n (.Pass default)
noncomputable def fnC : Stmt → Obj
  | .FunctionDef n a b _ _ _ s _ _ _ => ⟨.none, none, .func ⟨n, n, a, .stmts b, s, 0, [], .none, .none, .none, .none, none, .none, .none, 0⟩, ⟨[]⟩⟩
  | _ => default
noncomputable def fnO (x : Stmt) (m c : Value) : Obj := match x with
  | .FunctionDef n a b _ _ _ s _ _ _ => ⟨.type "function", none, .func ⟨n, n, a, .stmts b, s, 3, [], .none, .none, .none, m, none, c, .none, 0⟩, ⟨[]⟩⟩
  | _ => default
noncomputable def g3A (P : Params) : List DictEntry := [kd P (mkS [95, 95, 100, 111, 99, 95, 95]) 166 .none, kd P (mkS [95, 95, 112, 97, 99, 107, 97, 103, 101, 95, 95]) 167 .none, kd P (mkS [95, 95, 108, 111, 97, 100, 101, 114, 95, 95]) 168 (.builtin "__main__.__loader__#opaque"), kd P (mkS [95, 95, 115, 112, 101, 99, 95, 95]) 169 .none, kd P (mkS [95, 95, 97, 110, 110, 111, 116, 97, 116, 105, 111, 110, 115, 95, 95]) 170 (.ref 6), kd P (mkS [95, 95, 98, 117, 105, 108, 116, 105, 110, 115, 95, 95]) 171 (.ref 4), kd P (mkS [95, 95, 102, 105, 108, 101, 95, 95]) 173 (.str (mkS [47, 99, 108, 97, 105, 109, 47, 99, 117, 116, 46, 112, 121]) 172), kd P (mkS [95, 95, 99, 97, 99, 104, 101, 100, 95, 95]) 174 .none, kd P (mkS [69, 76, 76, 73, 80, 83, 73, 83, 95, 77, 65, 82, 75, 69, 82]) 190 (.str (mkS [46, 46, 46]) 189), kd P (mkS [95, 101, 108, 108, 105, 112, 115, 105, 115, 95, 109, 97, 116, 99, 104]) 202 (.ref 21), kd P (mkS [95, 68, 73, 86, 95, 76, 73, 77, 73, 84]) 206 (.int 4000 205), kd P (mkS [95, 100, 105, 118, 50, 110, 49, 110]) 223 (.ref 28), kd P (mkS [95, 100, 105, 118, 51, 110, 50, 110]) 237 (.ref 35), kd P (mkS [95, 105, 110, 116, 50, 100, 105, 103, 105, 116, 115]) 248 (.ref 42), kd P (mkS [95, 100, 105, 103, 105, 116, 115, 50, 105, 110, 116]) 259 (.ref 49), kd P (mkS [95, 100, 105, 118, 109, 111, 100, 95, 112, 111, 115]) 274 (.ref 56), kd P (mkS [105, 110, 116, 95, 100, 105, 118, 109, 111, 100]) 284 (.ref 63), kd P (mkS [95, 112, 97, 114, 115, 101, 95, 118, 97, 114, 105, 110, 116]) 295 (.ref 70), kd P (mkS [69, 78, 68, 77, 65, 82, 75, 69, 82]) 299 (.int 0 298), kd P (mkS [76, 80, 65, 82]) 301 (.int 7 300), kd P (mkS [82, 80, 65, 82]) 303 (.int 8 302), kd P (mkS [76, 83, 81, 66]) 305 (.int 9 304), kd P (mkS [82, 83, 81, 66]) 307 (.int 10 306), kd P (mkS [67, 79, 76, 79, 78]) 309 (.int 11 308), kd P (mkS [67, 79, 77, 77, 65]) 311 (.int 12 310), kd P (mkS [83, 69, 77, 73]) 313 (.int 13 312), kd P (mkS [80, 76, 85, 83]) 315 (.int 14 314), kd P (mkS [77, 73, 78, 85, 83]) 317 (.int 15 316), kd P (mkS [83, 84, 65, 82]) 319 (.int 16 318), kd P (mkS [83, 76, 65, 83, 72]) 321 (.int 17 320), kd P (mkS [86, 66, 65, 82]) 323 (.int 18 322), kd P (mkS [65, 77, 80, 69, 82]) 325 (.int 19 324), kd P (mkS [76, 69, 83, 83]) 327 (.int 20 326), kd P (mkS [71, 82, 69, 65, 84, 69, 82]) 329 (.int 21 328), kd P (mkS [69, 81, 85, 65, 76]) 331 (.int 22 330), kd P (mkS [68, 79, 84]) 333 (.int 23 332), kd P (mkS [80, 69, 82, 67, 69, 78, 84]) 335 (.int 24 334), kd P (mkS [76, 66, 82, 65, 67, 69]) 337 (.int 25 336), kd P (mkS [82, 66, 82, 65, 67, 69]) 339 (.int 26 338), kd P (mkS [69, 81, 69, 81, 85, 65, 76]) 341 (.int 27 340), kd P (mkS [78, 79, 84, 69, 81, 85, 65, 76]) 343 (.int 28 342), kd P (mkS [76, 69, 83, 83, 69, 81, 85, 65, 76]) 345 (.int 29 344), kd P (mkS [71, 82, 69, 65, 84, 69, 82, 69, 81, 85, 65, 76]) 347 (.int 30 346), kd P (mkS [84, 73, 76, 68, 69]) 349 (.int 31 348), kd P (mkS [67, 73, 82, 67, 85, 77, 70, 76, 69, 88]) 351 (.int 32 350), kd P (mkS [76, 69, 70, 84, 83, 72, 73, 70, 84]) 353 (.int 33 352), kd P (mkS [82, 73, 71, 72, 84, 83, 72, 73, 70, 84]) 355 (.int 34 354), kd P (mkS [68, 79, 85, 66, 76, 69, 83, 84, 65, 82]) 357 (.int 35 356), kd P (mkS [80, 76, 85, 83, 69, 81, 85, 65, 76]) 359 (.int 36 358), kd P (mkS [77, 73, 78, 69, 81, 85, 65, 76]) 361 (.int 37 360), kd P (mkS [83, 84, 65, 82, 69, 81, 85, 65, 76]) 363 (.int 38 362), kd P (mkS [83, 76, 65, 83, 72, 69, 81, 85, 65, 76]) 365 (.int 39 364), kd P (mkS [80, 69, 82, 67, 69, 78, 84, 69, 81, 85, 65, 76]) 367 (.int 40 366), kd P (mkS [65, 77, 80, 69, 82, 69, 81, 85, 65, 76]) 369 (.int 41 368), kd P (mkS [86, 66, 65, 82, 69, 81, 85, 65, 76]) 371 (.int 42 370), kd P (mkS [67, 73, 82, 67, 85, 77, 70, 76, 69, 88, 69, 81, 85, 65, 76]) 373 (.int 43 372), kd P (mkS [76, 69, 70, 84, 83, 72, 73, 70, 84, 69, 81, 85, 65, 76]) 375 (.int 44 374), kd P (mkS [82, 73, 71, 72, 84, 83, 72, 73, 70, 84, 69, 81, 85, 65, 76]) 377 (.int 45 376), kd P (mkS [68, 79, 85, 66, 76, 69, 83, 84, 65, 82, 69, 81, 85, 65, 76]) 379 (.int 46 378), kd P (mkS [68, 79, 85, 66, 76, 69, 83, 76, 65, 83, 72]) 381 (.int 47 380), kd P (mkS [68, 79, 85, 66, 76, 69, 83, 76, 65, 83, 72, 69, 81, 85, 65, 76]) 383 (.int 48 382), kd P (mkS [65, 84]) 385 (.int 49 384), kd P (mkS [65, 84, 69, 81, 85, 65, 76]) 387 (.int 50 386), kd P (mkS [82, 65, 82, 82, 79, 87]) 389 (.int 51 388), kd P (mkS [69, 76, 76, 73, 80, 83, 73, 83]) 391 (.int 52 390), kd P (mkS [67, 79, 76, 79, 78, 69, 81, 85, 65, 76]) 393 (.int 53 392), kd P (mkS [69, 88, 67, 76, 65, 77, 65, 84, 73, 79, 78]) 395 (.int 54 394), kd P (mkS [78, 84, 95, 79, 70, 70, 83, 69, 84]) 397 (.int 256 396)]
noncomputable def g3M (P : Params) : List DictEntry := g3A P ++ [kd P (mkS [69, 88, 65, 67, 84, 95, 84, 79, 75, 69, 78, 95, 84, 89, 80, 69, 83]) 494 (.ref 71)]
noncomputable def g3F (P : Params) : List DictEntry := g3M P ++ [kd P (mkS [73, 83, 84, 69, 82, 77, 73, 78, 65, 76]) 501 (.ref 80), kd P (mkS [73, 83, 78, 79, 78, 84, 69, 82, 77, 73, 78, 65, 76]) 508 (.ref 87), kd P (mkS [73, 83, 69, 79, 70]) 515 (.ref 94), kd P (mkS [95, 108, 97, 119, 95, 115, 121, 109, 98, 111, 108, 115]) 526 (.ref 101), kd P (mkS [95, 108, 97, 119, 95, 107, 101, 112, 116]) 532 (.ref 106), kd P (mkS [95, 108, 97, 119, 95, 115, 116, 101, 112, 115]) 546 (.ref 113), kd P (mkS [95, 108, 97, 119, 95, 112, 114, 111, 118, 101, 100]) 552 (.ref 118), kd P (mkS [108, 97, 119]) 558 (.ref 123)]
noncomputable def ob13 : Obj := cdO [(.str (mkS [60, 109, 111, 100, 117, 108, 101, 62]) 182), (.str (mkS [60, 109, 111, 100, 117, 108, 101, 62]) 183), (.str (mkS [47, 99, 108, 97, 105, 109, 47, 99, 117, 116, 46, 112, 121]) 184), (.int 1 0), (.int 0 0), (.int 0 0), (.int 0 0), (.int 0 0), (.ref 11), (.bool false), (.int 181 0), (.ref 12), .none, .none, .none, .none, (.int 185 0), (.int 1 0), (.str (mkS [47, 99, 108, 97, 105, 109, 47, 99, 117, 116, 46, 112, 121]) 186)]
noncomputable def ob14 : Obj := ⟨(.type "frame"), none, .plain, ⟨[some (.ref 13), some (.ref 3), some (.ref 3), none, some (.str (mkS [95, 95, 109, 97, 105, 110, 95, 95]) 164), none, some (.ref 0)]⟩⟩
noncomputable def tB (P : Params) : BT := .node (boot_o_0 P) (.node (boot_o_1 P) (.node (boot_o_3 P) (.node (boot_o_7 P) .nil .nil) (.node (tpO []) .nil .nil)) (.node (boot_o_5 P) (.node (boot_o_9 P) .nil .nil) (.node (ob13) .nil .nil))) (.node (boot_o_2 P) (.node (boot_o_4 P) (.node (boot_o_8 P) .nil .nil) (.node (fdO []) .nil .nil)) (.node (boot_o_6 P) (.node (boot_o_10 P) .nil .nil) (.node (ob14) .nil .nil)))
noncomputable def ob31 : Obj := tpO [(.str (mkS [97, 49, 50]) 227), (.str (mkS [97, 51]) 228), (.str (mkS [98]) 229), (.str (mkS [98, 49]) 230), (.str (mkS [98, 50]) 231), (.str (mkS [110]) 232), (.str (mkS [113]) 233), (.str (mkS [114]) 234)]
noncomputable def ob39 : Obj := tpO [(.str (mkS [110]) 243), (.str (mkS [97, 95, 100, 105, 103, 105, 116, 115]) 244), (.str (mkS [105, 110, 110, 101, 114]) 245)]
noncomputable def ob55 : Obj := cdO [(.str (mkS [95, 100, 105, 118, 109, 111, 100, 95, 112, 111, 115]) 260), (.str (mkS [95, 100, 105, 118, 109, 111, 100, 95, 112, 111, 115]) 261), (.str (mkS [47, 99, 108, 97, 105, 109, 47, 99, 117, 116, 46, 112, 121]) 262), (.int 84 0), (.int 2 0), (.int 0 0), (.int 0 0), (.int 3 0), (.ref 50), (.bool true), (.int 181 0), (.ref 51), .none, (.ref 52), (.ref 53), (.ref 54), (.int 272 0), (.int 84 0), (.str (mkS [47, 99, 108, 97, 105, 109, 47, 99, 117, 116, 46, 112, 121]) 273)]
noncomputable def ob27 : Obj := cdO [(.str (mkS [95, 100, 105, 118, 50, 110, 49, 110]) 207), (.str (mkS [95, 100, 105, 118, 50, 110, 49, 110]) 208), (.str (mkS [47, 99, 108, 97, 105, 109, 47, 99, 117, 116, 46, 112, 121]) 209), (.int 33 0), (.int 3 0), (.int 0 0), (.int 0 0), (.int 3 0), (.ref 22), (.bool true), (.int 181 0), (.ref 23), .none, (.ref 24), (.ref 25), (.ref 26), (.int 221 0), (.int 33 0), (.str (mkS [47, 99, 108, 97, 105, 109, 47, 99, 117, 116, 46, 112, 121]) 222)]
noncomputable def ob59 : Obj := tpO [(.str (mkS [97]) 278), (.str (mkS [98]) 279), (.str (mkS [113]) 280), (.str (mkS [114]) 281)]
noncomputable def ob17 : Obj := tpO [(.str (mkS [119, 97, 110, 116]) 194), (.str (mkS [103, 111, 116]) 195), (.str (mkS [119, 115]) 196), (.str (mkS [115, 116, 97, 114, 116, 112, 111, 115]) 197), (.str (mkS [101, 110, 100, 112, 111, 115]) 198), (.str (mkS [119]) 199)]
noncomputable def ob41 : Obj := cdO [(.str (mkS [95, 105, 110, 116, 50, 100, 105, 103, 105, 116, 115]) 238), (.str (mkS [95, 105, 110, 116, 50, 100, 105, 103, 105, 116, 115]) 239), (.str (mkS [47, 99, 108, 97, 105, 109, 47, 99, 117, 116, 46, 112, 121]) 240), (.int 59 0), (.int 2 0), (.int 0 0), (.int 0 0), (.int 3 0), (.ref 36), (.bool true), (.int 181 0), (.ref 37), .none, (.ref 38), (.ref 39), (.ref 40), (.int 246 0), (.int 59 0), (.str (mkS [47, 99, 108, 97, 105, 109, 47, 99, 117, 116, 46, 112, 121]) 247)]
noncomputable def ob69 : Obj := cdO [(.str (mkS [95, 112, 97, 114, 115, 101, 95, 118, 97, 114, 105, 110, 116]) 287), (.str (mkS [95, 112, 97, 114, 115, 101, 95, 118, 97, 114, 105, 110, 116]) 288), (.str (mkS [47, 99, 108, 97, 105, 109, 47, 99, 117, 116, 46, 112, 121]) 289), (.int 107 0), (.int 1 0), (.int 0 0), (.int 0 0), (.int 3 0), (.ref 64), (.bool true), (.int 181 0), (.ref 65), .none, (.ref 66), (.ref 67), (.ref 68), (.int 293 0), (.int 107 0), (.str (mkS [47, 99, 108, 97, 105, 109, 47, 99, 117, 116, 46, 112, 121]) 294)]
noncomputable def ob45 : Obj := tpO [(.str (mkS [100, 105, 103, 105, 116, 115]) 252), (.str (mkS [110]) 253)]
noncomputable def ob48 : Obj := cdO [(.str (mkS [95, 100, 105, 103, 105, 116, 115, 50, 105, 110, 116]) 249), (.str (mkS [95, 100, 105, 103, 105, 116, 115, 50, 105, 110, 116]) 250), (.str (mkS [47, 99, 108, 97, 105, 109, 47, 99, 117, 116, 46, 112, 121]) 251), (.int 75 0), (.int 2 0), (.int 0 0), (.int 0 0), (.int 3 0), (.ref 43), (.bool true), (.int 181 0), (.ref 44), .none, (.ref 45), (.ref 46), (.ref 47), (.int 257 0), (.int 75 0), (.str (mkS [47, 99, 108, 97, 105, 109, 47, 99, 117, 116, 46, 112, 121]) 258)]
noncomputable def ob24 : Obj := tpO [(.str (mkS [97]) 210), (.str (mkS [98]) 211), (.str (mkS [110]) 212), (.str (mkS [112, 97, 100]) 213), (.str (mkS [104, 97, 108, 102, 95, 110]) 214), (.str (mkS [109, 97, 115, 107]) 215), (.str (mkS [98, 49]) 216), (.str (mkS [98, 50]) 217), (.str (mkS [113, 49]) 218), (.str (mkS [114]) 219), (.str (mkS [113, 50]) 220)]
noncomputable def ob20 : Obj := cdO [(.str (mkS [95, 101, 108, 108, 105, 112, 115, 105, 115, 95, 109, 97, 116, 99, 104]) 191), (.str (mkS [95, 101, 108, 108, 105, 112, 115, 105, 115, 95, 109, 97, 116, 99, 104]) 192), (.str (mkS [47, 99, 108, 97, 105, 109, 47, 99, 117, 116, 46, 112, 121]) 193), (.int 3 0), (.int 2 0), (.int 0 0), (.int 0 0), (.int 3 0), (.ref 15), (.bool true), (.int 181 0), (.ref 16), .none, (.ref 17), (.ref 18), (.ref 19), (.int 200 0), (.int 3 0), (.str (mkS [47, 99, 108, 97, 105, 109, 47, 99, 117, 116, 46, 112, 121]) 201)]
noncomputable def ob52 : Obj := tpO [(.str (mkS [97]) 263), (.str (mkS [98]) 264), (.str (mkS [110]) 265), (.str (mkS [97, 95, 100, 105, 103, 105, 116, 115]) 266), (.str (mkS [114]) 267), (.str (mkS [113, 95, 100, 105, 103, 105, 116, 115]) 268), (.str (mkS [97, 95, 100, 105, 103, 105, 116]) 269), (.str (mkS [113, 95, 100, 105, 103, 105, 116]) 270), (.str (mkS [113]) 271)]
noncomputable def ob34 : Obj := cdO [(.str (mkS [95, 100, 105, 118, 51, 110, 50, 110]) 224), (.str (mkS [95, 100, 105, 118, 51, 110, 50, 110]) 225), (.str (mkS [47, 99, 108, 97, 105, 109, 47, 99, 117, 116, 46, 112, 121]) 226), (.int 49 0), (.int 6 0), (.int 0 0), (.int 0 0), (.int 3 0), (.ref 29), (.bool true), (.int 181 0), (.ref 30), .none, (.ref 31), (.ref 32), (.ref 33), (.int 235 0), (.int 49 0), (.str (mkS [47, 99, 108, 97, 105, 109, 47, 99, 117, 116, 46, 112, 121]) 236)]
noncomputable def ob66 : Obj := tpO [(.str (mkS [105, 116, 101, 114, 97, 116, 111, 114]) 290), (.str (mkS [98]) 291), (.str (mkS [118, 97, 108]) 292)]
noncomputable def ob38 : Obj := tpO [(.str (mkS [97]) 241), (.str (mkS [110]) 242)]
noncomputable def ob46 : Obj := tpO [(.str (mkS [100, 105, 103, 105, 116, 115]) 254), (.str (mkS [110]) 255), (.str (mkS [105, 110, 110, 101, 114]) 256)]
noncomputable def ob62 : Obj := cdO [(.str (mkS [105, 110, 116, 95, 100, 105, 118, 109, 111, 100]) 275), (.str (mkS [105, 110, 116, 95, 100, 105, 118, 109, 111, 100]) 276), (.str (mkS [47, 99, 108, 97, 105, 109, 47, 99, 117, 116, 46, 112, 121]) 277), (.int 95 0), (.int 2 0), (.int 0 0), (.int 0 0), (.int 3 0), (.ref 57), (.bool true), (.int 181 0), (.ref 58), .none, (.ref 59), (.ref 60), (.ref 61), (.int 282 0), (.int 95 0), (.str (mkS [47, 99, 108, 97, 105, 109, 47, 99, 117, 116, 46, 112, 121]) 283)]
noncomputable def tA (P : Params) : BT := .node (boot_o_0 P) (.node (boot_o_1 P) (.node (dcO 69 (kd P (mkS [95, 95, 110, 97, 109, 101, 95, 95]) 165 (.str (mkS [99, 112, 121, 51, 49, 51, 46, 116, 111, 107, 101, 110]) 296) :: g3A P)) (.node (boot_o_7 P) (.node (tpO []) (.node (ob31) (.node (fnO (stF 10) (.str (mkS [99, 112, 121, 51, 49, 51, 46, 95, 112, 121, 108, 111, 110, 103]) 203) (.ref 62)) .nil .nil) .nil) (.node (fnC (stF 8)) .nil .nil)) (.node (fdO []) (.node (ob39) .nil .nil) (.node (ob55) .nil .nil))) (.node (tpO []) (.node (fnC (stF 2)) (.node (fnO (stF 6) (.str (mkS [99, 112, 121, 51, 49, 51, 46, 95, 112, 121, 108, 111, 110, 103]) 203) (.ref 34)) (.node (tpO []) .nil .nil) .nil) (.node (fdO []) .nil .nil)) (.node (ob27) (.node (tpO []) .nil .nil) (.node (ob59) .nil .nil)))) (.node (boot_o_5 P) (.node (boot_o_9 P) (.node (ob17) (.node (fnC (stF 6)) (.node (fdO []) .nil .nil) .nil) (.node (fnO (stF 8) (.str (mkS [99, 112, 121, 51, 49, 51, 46, 95, 112, 121, 108, 111, 110, 103]) 203) (.ref 48)) .nil .nil)) (.node (tpO []) (.node (ob41) .nil .nil) (.node (tpO []) .nil .nil))) (.node (ob13) (.node (fnO (stF 2) (.str (mkS [99, 112, 121, 51, 49, 51, 46, 100, 111, 99, 116, 101, 115, 116]) 187) (.ref 20)) (.node (fdO []) (.node (ob69) .nil .nil) .nil) (.node (tpO []) .nil .nil)) (.node (tpO []) (.node (ob45) .nil .nil) (.node (fnC (stF 10)) .nil .nil))))) (.node (boot_o_2 P) (.node (boot_o_4 P) (.node (boot_o_8 P) (.node (fdO []) (.node (tpO []) (.node (tpO []) .nil .nil) .nil) (.node (ob48) .nil .nil)) (.node (ob24) (.node (fnC (stF 7)) .nil .nil) (.node (fnO (stF 9) (.str (mkS [99, 112, 121, 51, 49, 51, 46, 95, 112, 121, 108, 111, 110, 103]) 203) (.ref 55)) .nil .nil))) (.node (fdO [(.int 3 0), (.int 0 0), (.ref 20), (.int 33 0), (.int 0 0), (.ref 27), (.int 49 0), (.int 0 0), (.ref 34), (.int 59 0), (.int 0 0), (.ref 41), (.int 75 0), (.int 0 0), (.ref 48), (.int 84 0), (.int 0 0), (.ref 55), (.int 95 0), (.int 0 0), (.ref 62), (.int 107 0), (.int 0 0), (.ref 69)]) (.node (ob20) (.node (tpO []) (.node (fnC (stF 12)) .nil .nil) .nil) (.node (ob52) .nil .nil)) (.node (fnO (stF 5) (.str (mkS [99, 112, 121, 51, 49, 51, 46, 95, 112, 121, 108, 111, 110, 103]) 203) (.ref 27)) (.node (fdO []) .nil .nil) (.node (tpO []) .nil .nil)))) (.node (boot_o_6 P) (.node (boot_o_10 P) (.node (tpO []) (.node (ob34) (.node (ob66) .nil .nil) .nil) (.node (tpO []) .nil .nil)) (.node (fnC (stF 5)) (.node (fnO (stF 7) (.str (mkS [99, 112, 121, 51, 49, 51, 46, 95, 112, 121, 108, 111, 110, 103]) 203) (.ref 41)) .nil .nil) (.node (fdO []) .nil .nil))) (.node (ob14) (.node (tpO []) (.node (ob38) (.node (fnO (stF 12) (.str (mkS [99, 112, 121, 51, 49, 51, 46, 100, 105, 115]) 285) (.ref 69)) .nil .nil) .nil) (.node (fnC (stF 9)) .nil .nil)) (.node (fdO []) (.node (ob46) .nil .nil) (.node (ob62) .nil .nil)))))
noncomputable def ob71 (P : Params) : Obj := dcO 48 [kd P (mkS [33]) 398 (.int 54 394), kd P (mkS [33, 61]) 400 (.int 28 342), kd P (mkS [37]) 402 (.int 24 334), kd P (mkS [37, 61]) 404 (.int 40 366), kd P (mkS [38]) 406 (.int 19 324), kd P (mkS [38, 61]) 408 (.int 41 368), kd P (mkS [40]) 410 (.int 7 300), kd P (mkS [41]) 412 (.int 8 302), kd P (mkS [42]) 414 (.int 16 318), kd P (mkS [42, 42]) 416 (.int 35 356), kd P (mkS [42, 42, 61]) 418 (.int 46 378), kd P (mkS [42, 61]) 420 (.int 38 362), kd P (mkS [43]) 422 (.int 14 314), kd P (mkS [43, 61]) 424 (.int 36 358), kd P (mkS [44]) 426 (.int 12 310), kd P (mkS [45]) 428 (.int 15 316), kd P (mkS [45, 61]) 430 (.int 37 360), kd P (mkS [45, 62]) 432 (.int 51 388), kd P (mkS [46]) 434 (.int 23 332), kd P (mkS [46, 46, 46]) 436 (.int 52 390), kd P (mkS [47]) 438 (.int 17 320), kd P (mkS [47, 47]) 440 (.int 47 380), kd P (mkS [47, 47, 61]) 442 (.int 48 382), kd P (mkS [47, 61]) 444 (.int 39 364), kd P (mkS [58]) 446 (.int 11 308), kd P (mkS [58, 61]) 448 (.int 53 392), kd P (mkS [59]) 450 (.int 13 312), kd P (mkS [60]) 452 (.int 20 326), kd P (mkS [60, 60]) 454 (.int 33 352), kd P (mkS [60, 60, 61]) 456 (.int 44 374), kd P (mkS [60, 61]) 458 (.int 29 344), kd P (mkS [61]) 460 (.int 22 330), kd P (mkS [61, 61]) 462 (.int 27 340), kd P (mkS [62]) 464 (.int 21 328), kd P (mkS [62, 61]) 466 (.int 30 346), kd P (mkS [62, 62]) 467 (.int 34 354), kd P (mkS [62, 62, 61]) 468 (.int 45 376), kd P (mkS [64]) 469 (.int 49 384), kd P (mkS [64, 61]) 470 (.int 50 386), kd P (mkS [91]) 471 (.int 9 304), kd P (mkS [93]) 472 (.int 10 306), kd P (mkS [94]) 473 (.int 32 350), kd P (mkS [94, 61]) 474 (.int 43 372), kd P (mkS [123]) 475 (.int 25 336), kd P (mkS [124]) 476 (.int 18 322), kd P (mkS [124, 61]) 477 (.int 42 370), kd P (mkS [125]) 478 (.int 26 338), kd P (mkS [126]) 479 (.int 31 348)]
noncomputable def ob73 (P : Params) : Obj := dcO 14 [kd P (mkS [62, 61]) 466 (.int 30 346), kd P (mkS [62, 62]) 467 (.int 34 354), kd P (mkS [62, 62, 61]) 468 (.int 45 376), kd P (mkS [64]) 469 (.int 49 384), kd P (mkS [64, 61]) 470 (.int 50 386), kd P (mkS [91]) 471 (.int 9 304), kd P (mkS [93]) 472 (.int 10 306), kd P (mkS [94]) 473 (.int 32 350), kd P (mkS [94, 61]) 474 (.int 43 372), kd P (mkS [123]) 475 (.int 25 336), kd P (mkS [124]) 476 (.int 18 322), kd P (mkS [124, 61]) 477 (.int 42 370), kd P (mkS [125]) 478 (.int 26 338), kd P (mkS [126]) 479 (.int 31 348)]
noncomputable def ob72 (P : Params) : Obj := dcO 17 [kd P (mkS [45, 62]) 432 (.int 51 388), kd P (mkS [46]) 434 (.int 23 332), kd P (mkS [46, 46, 46]) 436 (.int 52 390), kd P (mkS [47]) 438 (.int 17 320), kd P (mkS [47, 47]) 440 (.int 47 380), kd P (mkS [47, 47, 61]) 442 (.int 48 382), kd P (mkS [47, 61]) 444 (.int 39 364), kd P (mkS [58]) 446 (.int 11 308), kd P (mkS [58, 61]) 448 (.int 53 392), kd P (mkS [59]) 450 (.int 13 312), kd P (mkS [60]) 452 (.int 20 326), kd P (mkS [60, 60]) 454 (.int 33 352), kd P (mkS [60, 60, 61]) 456 (.int 44 374), kd P (mkS [60, 61]) 458 (.int 29 344), kd P (mkS [61]) 460 (.int 22 330), kd P (mkS [61, 61]) 462 (.int 27 340), kd P (mkS [62]) 464 (.int 21 328)]
noncomputable def tM (P : Params) : BT := .node (boot_o_0 P) (.node (boot_o_1 P) (.node (dcO 70 (kd P (mkS [95, 95, 110, 97, 109, 101, 95, 95]) 165 (.str (mkS [99, 112, 121, 51, 49, 51, 46, 116, 111, 107, 101, 110]) 296) :: g3M P)) (.node (boot_o_7 P) (.node (tpO []) (.node (ob31) (.node (fnO (stF 10) (.str (mkS [99, 112, 121, 51, 49, 51, 46, 95, 112, 121, 108, 111, 110, 103]) 203) (.ref 62)) .nil .nil) .nil) (.node (fnC (stF 8)) .nil .nil)) (.node (fdO []) (.node (ob39) (.node (ob71 P) .nil .nil) .nil) (.node (ob55) .nil .nil))) (.node (tpO []) (.node (fnC (stF 2)) (.node (fnO (stF 6) (.str (mkS [99, 112, 121, 51, 49, 51, 46, 95, 112, 121, 108, 111, 110, 103]) 203) (.ref 34)) (.node (tpO []) .nil .nil) .nil) (.node (fdO []) .nil .nil)) (.node (ob27) (.node (tpO []) .nil .nil) (.node (ob59) .nil .nil)))) (.node (boot_o_5 P) (.node (boot_o_9 P) (.node (ob17) (.node (fnC (stF 6)) (.node (fdO []) .nil .nil) .nil) (.node (fnO (stF 8) (.str (mkS [99, 112, 121, 51, 49, 51, 46, 95, 112, 121, 108, 111, 110, 103]) 203) (.ref 48)) .nil .nil)) (.node (tpO []) (.node (ob41) (.node (ob73 P) .nil .nil) .nil) (.node (tpO []) .nil .nil))) (.node (ob13) (.node (fnO (stF 2) (.str (mkS [99, 112, 121, 51, 49, 51, 46, 100, 111, 99, 116, 101, 115, 116]) 187) (.ref 20)) (.node (fdO []) (.node (ob69) .nil .nil) .nil) (.node (tpO []) .nil .nil)) (.node (tpO []) (.node (ob45) .nil .nil) (.node (fnC (stF 10)) .nil .nil))))) (.node (boot_o_2 P) (.node (boot_o_4 P) (.node (boot_o_8 P) (.node (fdO []) (.node (tpO []) (.node (tpO []) .nil .nil) .nil) (.node (ob48) .nil .nil)) (.node (ob24) (.node (fnC (stF 7)) (.node (ob72 P) .nil .nil) .nil) (.node (fnO (stF 9) (.str (mkS [99, 112, 121, 51, 49, 51, 46, 95, 112, 121, 108, 111, 110, 103]) 203) (.ref 55)) .nil .nil))) (.node (fdO [(.int 3 0), (.int 0 0), (.ref 20), (.int 33 0), (.int 0 0), (.ref 27), (.int 49 0), (.int 0 0), (.ref 34), (.int 59 0), (.int 0 0), (.ref 41), (.int 75 0), (.int 0 0), (.ref 48), (.int 84 0), (.int 0 0), (.ref 55), (.int 95 0), (.int 0 0), (.ref 62), (.int 107 0), (.int 0 0), (.ref 69)]) (.node (ob20) (.node (tpO []) (.node (fnC (stF 12)) .nil .nil) .nil) (.node (ob52) .nil .nil)) (.node (fnO (stF 5) (.str (mkS [99, 112, 121, 51, 49, 51, 46, 95, 112, 121, 108, 111, 110, 103]) 203) (.ref 27)) (.node (fdO []) .nil .nil) (.node (tpO []) .nil .nil)))) (.node (boot_o_6 P) (.node (boot_o_10 P) (.node (tpO []) (.node (ob34) (.node (ob66) .nil .nil) .nil) (.node (tpO []) .nil .nil)) (.node (fnC (stF 5)) (.node (fnO (stF 7) (.str (mkS [99, 112, 121, 51, 49, 51, 46, 95, 112, 121, 108, 111, 110, 103]) 203) (.ref 41)) .nil .nil) (.node (fdO []) .nil .nil))) (.node (ob14) (.node (tpO []) (.node (ob38) (.node (fnO (stF 12) (.str (mkS [99, 112, 121, 51, 49, 51, 46, 100, 105, 115]) 285) (.ref 69)) .nil .nil) .nil) (.node (fnC (stF 9)) .nil .nil)) (.node (fdO []) (.node (ob46) .nil .nil) (.node (ob62) .nil .nil)))))
noncomputable def tF (P : Params) : BT := .node (boot_o_0 P) (.node (boot_o_1 P) (.node (dcO 78 (kd P (mkS [95, 95, 110, 97, 109, 101, 95, 95]) 165 (.str (mkS [108, 97, 119, 95, 116, 97, 48, 48, 53, 57, 95, 48, 49]) 516) :: g3F P)) (.node (boot_o_7 P) (.node (tpO []) (.node (ob31) (.node (fnO (stF 10) (.str (mkS [99, 112, 121, 51, 49, 51, 46, 95, 112, 121, 108, 111, 110, 103]) 203) (.ref 62)) .nil .nil) (.node (tpO []) .nil .nil)) (.node (fnC (stF 8)) (.node (cdO [(.str (mkS [73, 83, 84, 69, 82, 77, 73, 78, 65, 76]) 495), (.str (mkS [73, 83, 84, 69, 82, 77, 73, 78, 65, 76]) 496), (.str (mkS [47, 99, 108, 97, 105, 109, 47, 99, 117, 116, 46, 112, 121]) 497), (.int 167 0), (.int 1 0), (.int 0 0), (.int 0 0), (.int 3 0), (.ref 74), (.bool true), (.int 181 0), (.ref 75), .none, (.ref 76), (.ref 77), (.ref 78), (.int 499 0), (.int 167 0), (.str (mkS [47, 99, 108, 97, 105, 109, 47, 99, 117, 116, 46, 112, 121]) 500)]) .nil .nil) (.node (fnC (stF 71)) .nil .nil))) (.node (fdO []) (.node (ob39) (.node (ob71 P) .nil .nil) (.node (fdO []) .nil .nil)) (.node (ob55) (.node (fnO (stF 66) (.str (mkS [99, 112, 121, 51, 49, 51, 46, 116, 111, 107, 101, 110]) 296) (.ref 86)) .nil .nil) (.node (tpO []) .nil .nil)))) (.node (tpO []) (.node (fnC (stF 2)) (.node (fnO (stF 6) (.str (mkS [99, 112, 121, 51, 49, 51, 46, 95, 112, 121, 108, 111, 110, 103]) 203) (.ref 34)) (.node (tpO []) .nil .nil) (.node (fnC (stF 69)) .nil .nil)) (.node (fdO []) (.node (tpO [(.str (mkS [120]) 505)]) .nil .nil) (.node (fdO []) .nil .nil))) (.node (ob27) (.node (tpO []) (.node (fdO []) .nil .nil) (.node (tpO []) .nil .nil)) (.node (ob59) (.node (tpO []) .nil .nil) (.node (fnO (stF 73) (.str (mkS [108, 97, 119, 95, 116, 97, 48, 48, 53, 57, 95, 48, 49]) 516) (.ref 122)) .nil .nil))))) (.node (boot_o_5 P) (.node (boot_o_9 P) (.node (ob17) (.node (fnC (stF 6)) (.node (fdO []) .nil .nil) (.node (tpO [(.str (mkS [110, 117, 109, 98, 101, 114]) 521), (.str (mkS [115, 121, 109, 98, 111, 108, 115]) 522), (.str (mkS [111, 99, 116, 101, 116, 115]) 523)]) .nil .nil)) (.node (fnO (stF 8) (.str (mkS [99, 112, 121, 51, 49, 51, 46, 95, 112, 121, 108, 111, 110, 103]) 203) (.ref 48)) (.node (tpO []) .nil .nil) (.node (fnO (stF 71) (.str (mkS [108, 97, 119, 95, 116, 97, 48, 48, 53, 57, 95, 48, 49]) 516) (.ref 112)) .nil .nil))) (.node (tpO []) (.node (ob41) (.node (ob73 P) .nil .nil) (.node (cdO [(.str (mkS [95, 108, 97, 119, 95, 107, 101, 112, 116]) 527), (.str (mkS [95, 108, 97, 119, 95, 107, 101, 112, 116]) 528), (.str (mkS [47, 99, 108, 97, 105, 109, 47, 99, 117, 116, 46, 112, 121]) 529), (.int 182 0), (.int 6 0), (.int 0 0), (.int 0 0), (.int 3 0), (.ref 102), (.bool true), (.int 181 0), (.ref 103), .none, .none, .none, (.ref 104), (.int 530 0), (.int 182 0), (.str (mkS [47, 99, 108, 97, 105, 109, 47, 99, 117, 116, 46, 112, 121]) 531)]) .nil .nil)) (.node (tpO []) (.node (fdO []) .nil .nil) (.node (fnC (stF 73)) .nil .nil)))) (.node (ob13) (.node (fnO (stF 2) (.str (mkS [99, 112, 121, 51, 49, 51, 46, 100, 111, 99, 116, 101, 115, 116]) 187) (.ref 20)) (.node (fdO []) (.node (ob69) .nil .nil) (.node (fnO (stF 69) (.str (mkS [108, 97, 119, 95, 116, 97, 48, 48, 53, 57, 95, 48, 49]) 516) (.ref 100)) .nil .nil)) (.node (tpO []) (.node (fnC (stF 66)) .nil .nil) (.node (cdO [(.str (mkS [95, 108, 97, 119, 95, 112, 114, 111, 118, 101, 100]) 547), (.str (mkS [95, 108, 97, 119, 95, 112, 114, 111, 118, 101, 100]) 548), (.str (mkS [47, 99, 108, 97, 105, 109, 47, 99, 117, 116, 46, 112, 121]) 549), (.int 212 0), (.int 6 0), (.int 0 0), (.int 0 0), (.int 3 0), (.ref 114), (.bool true), (.int 181 0), (.ref 115), .none, .none, .none, (.ref 116), (.int 550 0), (.int 212 0), (.str (mkS [47, 99, 108, 97, 105, 109, 47, 99, 117, 116, 46, 112, 121]) 551)]) .nil .nil))) (.node (tpO []) (.node (ob45) (.node (tpO []) .nil .nil) (.node (tpO [(.str (mkS [116, 101, 120, 116]) 536), (.str (mkS [107]) 537), (.str (mkS [107, 110, 111, 116]) 538), (.str (mkS [110]) 539), (.str (mkS [109]) 540), (.str (mkS [113]) 541), (.str (mkS [115, 116, 101, 112, 115]) 542), (.str (mkS [112, 108, 97, 99, 101]) 543)]) .nil .nil)) (.node (fnC (stF 10)) (.node (cdO [(.str (mkS [73, 83, 69, 79, 70]) 509), (.str (mkS [73, 83, 69, 79, 70]) 510), (.str (mkS [47, 99, 108, 97, 105, 109, 47, 99, 117, 116, 46, 112, 121]) 511), (.int 171 0), (.int 1 0), (.int 0 0), (.int 0 0), (.int 3 0), (.ref 88), (.bool true), (.int 181 0), (.ref 89), .none, (.ref 90), (.ref 91), (.ref 92), (.int 513 0), (.int 171 0), (.str (mkS [47, 99, 108, 97, 105, 109, 47, 99, 117, 116, 46, 112, 121]) 514)]) .nil .nil) .nil))))) (.node (boot_o_2 P) (.node (boot_o_4 P) (.node (boot_o_8 P) (.node (fdO []) (.node (tpO []) (.node (tpO []) .nil .nil) (.node (fdO []) .nil .nil)) (.node (ob48) (.node (fnO (stF 65) (.str (mkS [99, 112, 121, 51, 49, 51, 46, 116, 111, 107, 101, 110]) 296) (.ref 79)) .nil .nil) (.node (cdO [(.str (mkS [95, 108, 97, 119, 95, 115, 116, 101, 112, 115]) 533), (.str (mkS [95, 108, 97, 119, 95, 115, 116, 101, 112, 115]) 534), (.str (mkS [47, 99, 108, 97, 105, 109, 47, 99, 117, 116, 46, 112, 121]) 535), (.int 204 0), (.int 6 0), (.int 0 0), (.int 0 0), (.int 3 0), (.ref 107), (.bool true), (.int 181 0), (.ref 108), .none, (.ref 109), (.ref 110), (.ref 111), (.int 544 0), (.int 204 0), (.str (mkS [47, 99, 108, 97, 105, 109, 47, 99, 117, 116, 46, 112, 121]) 545)]) .nil .nil))) (.node (ob24) (.node (fnC (stF 7)) (.node (ob72 P) .nil .nil) (.node (fnC (stF 70)) .nil .nil)) (.node (fnO (stF 9) (.str (mkS [99, 112, 121, 51, 49, 51, 46, 95, 112, 121, 108, 111, 110, 103]) 203) (.ref 55)) (.node (tpO []) .nil .nil) (.node (fdO []) .nil .nil)))) (.node (fdO [(.int 3 0), (.int 0 0), (.ref 20), (.int 33 0), (.int 0 0), (.ref 27), (.int 49 0), (.int 0 0), (.ref 34), (.int 59 0), (.int 0 0), (.ref 41), (.int 75 0), (.int 0 0), (.ref 48), (.int 84 0), (.int 0 0), (.ref 55), (.int 95 0), (.int 0 0), (.ref 62), (.int 107 0), (.int 0 0), (.ref 69), (.int 167 0), (.int 0 0), (.ref 79), (.int 169 0), (.int 0 0), (.ref 86), (.int 171 0), (.int 0 0), (.ref 93), (.int 174 0), (.int 0 0), (.ref 100), (.int 182 0), (.int 0 0), (.ref 105), (.int 204 0), (.int 0 0), (.ref 112), (.int 212 0), (.int 0 0), (.ref 117), (.int 232 0), (.int 0 0), (.ref 122)]) (.node (ob20) (.node (tpO []) (.node (fnC (stF 12)) .nil .nil) (.node (cdO [(.str (mkS [95, 108, 97, 119, 95, 115, 121, 109, 98, 111, 108, 115]) 518), (.str (mkS [95, 108, 97, 119, 95, 115, 121, 109, 98, 111, 108, 115]) 519), (.str (mkS [47, 99, 108, 97, 105, 109, 47, 99, 117, 116, 46, 112, 121]) 520), (.int 174 0), (.int 1 0), (.int 0 0), (.int 0 0), (.int 3 0), (.ref 95), (.bool true), (.int 181 0), (.ref 96), .none, (.ref 97), (.ref 98), (.ref 99), (.int 524 0), (.int 174 0), (.str (mkS [47, 99, 108, 97, 105, 109, 47, 99, 117, 116, 46, 112, 121]) 525)]) .nil .nil)) (.node (ob52) (.node (tpO []) .nil .nil) (.node (fnC (stF 72)) .nil .nil))) (.node (fnO (stF 5) (.str (mkS [99, 112, 121, 51, 49, 51, 46, 95, 112, 121, 108, 111, 110, 103]) 203) (.ref 27)) (.node (fdO []) (.node (tpO [(.str (mkS [120]) 498)]) .nil .nil) (.node (fdO []) .nil .nil)) (.node (tpO []) (.node (fnC (stF 67)) .nil .nil) .nil)))) (.node (boot_o_6 P) (.node (boot_o_10 P) (.node (tpO []) (.node (ob34) (.node (ob66) .nil .nil) (.node (tpO []) .nil .nil)) (.node (tpO []) (.node (fdO []) .nil .nil) (.node (tpO []) .nil .nil))) (.node (fnC (stF 5)) (.node (fnO (stF 7) (.str (mkS [99, 112, 121, 51, 49, 51, 46, 95, 112, 121, 108, 111, 110, 103]) 203) (.ref 41)) (.node (tpO []) .nil .nil) (.node (fnO (stF 70) (.str (mkS [108, 97, 119, 95, 116, 97, 48, 48, 53, 57, 95, 48, 49]) 516) (.ref 105)) .nil .nil)) (.node (fdO []) (.node (tpO [(.str (mkS [120]) 512)]) .nil .nil) (.node (cdO [(.str (mkS [108, 97, 119]) 553), (.str (mkS [108, 97, 119]) 554), (.str (mkS [47, 99, 108, 97, 105, 109, 47, 99, 117, 116, 46, 112, 121]) 555), (.int 232 0), (.int 1 0), (.int 0 0), (.int 0 0), (.int 3 0), (.ref 119), (.bool true), (.int 181 0), (.ref 120), .none, .none, .none, (.ref 121), (.int 556 0), (.int 232 0), (.str (mkS [47, 99, 108, 97, 105, 109, 47, 99, 117, 116, 46, 112, 121]) 557)]) .nil .nil)))) (.node (ob14) (.node (tpO []) (.node (ob38) (.node (fnO (stF 12) (.str (mkS [99, 112, 121, 51, 49, 51, 46, 100, 105, 115]) 285) (.ref 69)) .nil .nil) (.node (tpO []) .nil .nil)) (.node (fnC (stF 9)) (.node (cdO [(.str (mkS [73, 83, 78, 79, 78, 84, 69, 82, 77, 73, 78, 65, 76]) 502), (.str (mkS [73, 83, 78, 79, 78, 84, 69, 82, 77, 73, 78, 65, 76]) 503), (.str (mkS [47, 99, 108, 97, 105, 109, 47, 99, 117, 116, 46, 112, 121]) 504), (.int 169 0), (.int 1 0), (.int 0 0), (.int 0 0), (.int 3 0), (.ref 81), (.bool true), (.int 181 0), (.ref 82), .none, (.ref 83), (.ref 84), (.ref 85), (.int 506 0), (.int 169 0), (.str (mkS [47, 99, 108, 97, 105, 109, 47, 99, 117, 116, 46, 112, 121]) 507)]) .nil .nil) (.node (fnO (stF 72) (.str (mkS [108, 97, 119, 95, 116, 97, 48, 48, 53, 57, 95, 48, 49]) 516) (.ref 117)) .nil .nil))) (.node (fdO []) (.node (ob46) (.node (fnC (stF 65)) .nil .nil) (.node (tpO []) .nil .nil)) (.node (ob62) (.node (fnO (stF 67) (.str (mkS [99, 112, 121, 51, 49, 51, 46, 116, 111, 107, 101, 110]) 296) (.ref 93)) .nil .nil) .nil)))))
noncomputable def bdy : List Stmt := behindTheImports rowA.prog
noncomputable def env0 : Env := ⟨rowA.prog.main.scope, mainNs, mainNs, [], Str.empty, none, .ref 13, some 14, 0⟩
noncomputable def cdB : Code := .body bdy env0
noncomputable def sB (w : World) (os : OsState) : SharedT := ⟨tB w.params, 15, {}, Array.mk [], boot_drawn, 187, os⟩
noncomputable def sA (w : World) (os : OsState) : SharedT := ⟨tA w.params, 71, {}, Array.mk [], boot_drawn, 398, os⟩
noncomputable def sM (w : World) (os : OsState) : SharedT := ⟨tM w.params, 74, {}, Array.mk [], boot_drawn, 495, os⟩
noncomputable def sF (w : World) (os : OsState) : SharedT := ⟨tF w.params, 124, {}, Array.mk [], boot_drawn, 559, os⟩
noncomputable def pA : Pos := ⟨165, 0, 165, 9⟩
noncomputable def pM : Pos := ⟨166, 0, 166, 17⟩
noncomputable def pF : Pos := ⟨232, 0, 265, 140⟩
noncomputable def l1 : List Stmt := bdy.take 64
noncomputable def r1 : List Stmt := bdy.drop 64
noncomputable def l2 : List Stmt := r1.take 1
noncomputable def l3 : List Stmt := r1.drop 1
theorem bdy_eq : bdy = l1 ++ (l2 ++ (l3 ++ [])) := by
  unfold l3 l2 l1
  rw [List.append_nil, List.take_append_drop]
  exact (List.take_append_drop 64 bdy).symm
noncomputable abbrev Go (l : List Stmt) (n : Nat) (s s' : World → OsState → SharedT) (p p' : Pos) (w : World) : Prop :=
  (fun os => Fast.tw10110043849684766642 Fast.tw14364793385576792824 rowA.prog w 11 (some (.ref 6)) 1 n (s w os) ⟨(Fast.tw12563942051412417395 l env0).wrap doneF deadEnd id id, cdB, p, [topFrame default]⟩) = fun os => some (.next, s' w os, cdB, p')
theorem run_1 (w : World) : (fun os => Fast.tw15667345088766844465 Fast.tw14364793385576792824 rowA.prog w 11 (some (.ref 6)) 12 ⟨boot_heap w.params, Array.mk [], boot_drawn, boot_toks, os⟩ (topStub rowA.prog)) = fun os => some ((sB w os).abs, ⟨Fast.tw11892475500146522536 Fast.tw14364793385576792824 cdB, cdB, default, [topFrame default]⟩) := by kernel_rfl
theorem run_2 (w : World) : (fun os => Fast.tw14374325043358763698 Fast.tw14364793385576792824 rowA.prog w 11 (some (.ref 6)) 1 1 (sB w os).abs ⟨(Fast.tw1066825118222455980 bdy env0).wrap (fun _ => doneF .next) deadEnd id id, cdB, default, [topFrame default]⟩) = fun os => some (.next, (sB w os).abs, cdB, default) := by kernel_rfl
theorem run_3 (w : World) : Go l1 780 sB sA default pA w := by kernel_rfl
theorem run_4f (w : World) : Go l2 979 sA sM pA pM (w.withFollow "special-get-raises" false) := by kernel_rfl
theorem run_4t (w : World) : Go l2 979 sA sM pA pM (w.withFollow "special-get-raises" true) := by kernel_rfl
theorem run_5 (w : World) : Go l3 242 sM sF pM pF w := by kernel_rfl
theorem run_6 (w : World) : (fun os => Fast.tw14082659384304107361 Fast.tw14364793385576792824 rowA.prog w 11 (some (.ref 6)) 2 (sF w os).abs ⟨doneF .next, cdB, pF, [topFrame default]⟩) = fun os => some (sF w os).abs := by kernel_rfl
theorem seg_of {l : List Stmt} {n : Nat} {s s' : World → OsState → SharedT} {p p' : Pos} {w : World} (h : Go l n s s' p p' w) (os : OsState) : segRun treeTable rowA.prog w 11 (some (.ref 6)) 1 n (s w os).abs (piecesOf l env0 cdB p [topFrame default]) = some (.next, (s' w os).abs, cdB, p') := by
  unfold Go at h
  rw [← Fast.te10110043849684766642, ← Fast.te12563942051412417395, ← Fast.te14364793385576792824] at h
  exact segRun_of (congrFun h os)
theorem run_all (w : World) (os : OsState) : topRun treeTable rowA.prog w 11 (some (.ref 6)) (12 + (1 + (780 + (979 + (242 + 2))))) ⟨boot_heap w.params, Array.mk [], boot_drawn, boot_toks, os⟩ (topStub rowA.prog) = some (sF w os).abs := by
  have h1 := run_1 w
  have h2 := run_2 w
  have h6 := run_6 w
  rw [← Fast.te15667345088766844465, ← Fast.te11892475500146522536, ← Fast.te14364793385576792824] at h1
  rw [← Fast.te14374325043358763698, ← Fast.te1066825118222455980, ← Fast.te14364793385576792824] at h2
  rw [← Fast.te14082659384304107361, ← Fast.te14364793385576792824] at h6
  have k3 : topRun treeTable rowA.prog w 11 (some (.ref 6)) (780 + (979 + (242 + 2))) (sB w os).abs (restOf bdy env0 cdB default [topFrame default]) = some (sF w os).abs := by
    rw [bdy_eq]
    exact piece_app (seg_of (run_3 w) os) (piece_app (seg_of (byRow2 "special-get-raises" run_4f run_4t w) os) (piece_app (seg_of (run_5 w) os) (piece_nil (congrFun h6 os))))
  have e1 : topGo treeTable rowA.prog w 11 (some (.ref 6)) 12 ⟨boot_heap w.params, Array.mk [], boot_drawn, boot_toks, os⟩ (topStub rowA.prog) = some ((sB w os).abs, ⟨denote treeTable cdB, cdB, default, [topFrame default]⟩) := congrFun h1 os
  have e2 : segRun treeTable rowA.prog w 11 (some (.ref 6)) 1 1 (sB w os).abs (blockOf bdy env0 cdB default [topFrame default]) = some (.next, (sB w os).abs, cdB, default) := congrFun h2 os
  have e3 : topRun treeTable rowA.prog w 11 (some (.ref 6)) (1 + (780 + (979 + (242 + 2)))) (sB w os).abs ⟨denote treeTable cdB, cdB, default, [topFrame default]⟩ = some (sF w os).abs := by
    unfold cdB
    unfold cdB at e2 k3
    exact piece_block e2 k3
  exact go_top e1 e3
theorem look_1 (w : World) : (fun os => staticsOk (Fast.tw5923862056798008813 rowA.prog.main.body) (boot_heap w.params) (sF w os).abs.heap && namesBound rowA.prog (sF w os).abs.heap && gensDone (sF w os).abs && laidKept (boot_heap w.params) (sF w os).abs.heap) = fun _ => true := by kernel_rfl
theorem look_2 (w : World) : (fun os => Fast.tw4187177175401517315 (view rowA.prog keep) looseL (Fast.tw5923862056798008813 rowA.prog.main.body) (fun s => xlAt (view rowA.prog keep) [] s && recOk rowA.toRowW.records s) true (sF w os).abs) = fun _ => openGood (view rowA.prog keep) looseL := by kernel_rfl
theorem look_3 (w : World) : (fun os => hkObs (sF w os).abs) = fun _ => hkVal w := by kernel_rfl
theorem size (w : World) : ((boot_heap w.params).isNs mainGlobals && (Array.mk [] : Array GenState).size == 0, (boot_heap w.params).objs.size, (boot_heap w.params).nsMap mainGlobals "__annotations__") = (true, 11, some (.ref 6)) := by kernel_rfl
theorem opens : opening rowA.prog = plainProg rowA.prog.main.scope.names := by kernel_rfl
theorem fence (s : Shared) : fenceModules? rowA.prog s = some s := by kernel_rfl
end Hd
theorem leftA : LeftO rowA.prog (view rowA.prog keep) looseL (fun s => xlAt (view rowA.prog keep) [] s && recOk rowA.toRowW.records s) hkObs hkVal 4122 := by
  refine LeftO.of_pieces (H₀ := boot_heap) (H₁ := fun P => absHeap (Hd.tF P) 124 {}) (gs₀ := Array.mk []) (gs₁ := Array.mk []) (d₀ := boot_drawn) (d₁ := boot_drawn) (k₀ := boot_toks) (k₁ := 559) (m₀ := 11) (ann := some (.ref 6)) (M := 12 + (1 + (780 + (979 + (242 + 2))))) (boot_open (N := 4122) Hd.opens rfl Hd.fence) Hd.size Hd.run_all rfl fun w => ?_
  have h1 := Hd.look_1 w
  have h2 := Hd.look_2 w
  rw [← Fast.te5923862056798008813] at h1
  rw [← Fast.te5923862056798008813, ← Fast.te4187177175401517315] at h2
  funext os
  exact Prod.ext (congrFun h1 os) (Prod.ext (congrFun h2 os) (congrFun (Hd.look_3 w) os))
set_option maxHeartbeats 200000
inductive D where
  | none
  | bool (b : Bool)
  | int (i : Int)
  | str (l : List Nat)
  | list (l : List D)
  | tup (l : List D)
  | rng (lo hi step : Int)
  | own (l : List D)
  | itr (l : List D)
  | obj (a : Addr) (l : List (Addr × Obj))
noncomputable def D.isOwn : D → Bool
  | .own _ => true
  | .itr _ => true
  | _ => false
noncomputable abbrev Vis := Addr → Obj → Prop
noncomputable def vis (Mu : Addr → Prop) (h : Heap) : Vis := fun a o => ¬ Mu a ∧ h.get? a = some o
mutual
inductive Rep (g : Vis) : Value → D → Prop
  | none : Rep g .none .none
  | bool (b : Bool) : Rep g (.bool b) (.bool b)
  | int (i : Int) (t : Tok) : Rep g (.int i t) (.int i)
  | str (l : List Nat) (t : Tok) : Rep g (.str (mkS l) t) (.str l)
  | list {a : Addr} {n : Nat} {vs : List Value} {ds : List D} : g a { cls := .type "list", data := .seq vs.toArray n } → RepL g vs ds → Rep g (.ref a) (.list ds)
  | tup {a : Addr} {n : Nat} {vs : List Value} {ds : List D} : g a { cls := .type "tuple", data := .seq vs.toArray n } → RepL g vs ds → Rep g (.ref a) (.tup ds)
  | rng {a : Addr} {lo hi st : Int} {t u v : Tok} : g a { cls := .type "range", dict := none, data := .fields #[.int lo t, .int hi u, .int st v], slots := #[] } → Rep g (.ref a) (.rng lo hi st)
  | obj {a : Addr} {l : List (Addr × Obj)} : (∀ p ∈ l, g p.1 p.2) → Rep g (.ref a) (.obj a l)
inductive RepL (g : Vis) : List Value → List D → Prop
  | nil : RepL g [] []
  | cons {v : Value} {d : D} {vs : List Value} {ds : List D} : Rep g v d → RepL g vs ds → RepL g (v :: vs) (d :: ds)
end
theorem Rep.mono {g g' : Vis} (hg : ∀ a o, g a o → g' a o) {v : Value} {d : D} (h : Rep g v d) : Rep g' v d := by
  refine Rep.rec (motive_1 := fun v d _ => Rep g' v d) (motive_2 := fun vs ds _ => RepL g' vs ds) ?_ ?_ ?_ ?_ ?_ ?_ ?_ ?_ ?_ ?_ h
  · exact .none
  · intro b; exact .bool b
  · intro i t; exact .int i t
  · intro l t; exact .str l t
  · intro a n vs ds ha _ ih; exact .list (hg _ _ ha) ih
  · intro a n vs ds ha _ ih; exact .tup (hg _ _ ha) ih
  · intro a lo hi st t u v ha; exact .rng (hg _ _ ha)
  · intro a l ha; exact .obj fun p hp => hg _ _ (ha p hp)
  · exact .nil
  · intro v d vs ds _ _ i1 i2; exact .cons i1 i2
theorem RepL.nil_i {g : Vis} {vs : List Value} (h : RepL g vs []) : vs = [] := by cases h; rfl
theorem RepL.cons_i {g : Vis} {vs : List Value} {d : D} {ds : List D} (h : RepL g vs (d :: ds)) : ∃ v ws, vs = v :: ws ∧ Rep g v d ∧ RepL g ws ds := by cases h with | cons a t => exact ⟨_, _, rfl, a, t⟩
theorem Rep.none_i {g : Vis} {v : Value} (h : Rep g v .none) : v = .none := by cases h; rfl
theorem Rep.bool_i {g : Vis} {v : Value} {b : Bool} (h : Rep g v (.bool b)) : v = .bool b := by cases h; rfl
theorem Rep.int_i {g : Vis} {v : Value} {i : Int} (h : Rep g v (.int i)) : ∃ t, v = .int i t := by cases h; exact ⟨_, rfl⟩
theorem Rep.str_i {g : Vis} {v : Value} {l : List Nat} (h : Rep g v (.str l)) : ∃ t, v = .str (mkS l) t := by cases h; exact ⟨_, rfl⟩
theorem Rep.list_i {g : Vis} {v : Value} {ds : List D} (h : Rep g v (.list ds)) : ∃ a n vs, v = .ref a ∧ g a { cls := .type "list", data := .seq (List.toArray vs) n } ∧ RepL g vs ds := by cases h with | list x y => exact ⟨_, _, _, rfl, x, y⟩
theorem Rep.tup_i {g : Vis} {v : Value} {ds : List D} (h : Rep g v (.tup ds)) : ∃ a n vs, v = .ref a ∧ g a { cls := .type "tuple", data := .seq (List.toArray vs) n } ∧ RepL g vs ds := by cases h with | tup x y => exact ⟨_, _, _, rfl, x, y⟩
theorem Rep.rng_i {g : Vis} {v : Value} {lo hi st : Int} (h : Rep g v (.rng lo hi st)) : ∃ a t u w, v = .ref a ∧ g a { cls := .type "range", dict := Option.none, data := .fields #[.int lo t, .int hi u, .int st w], slots := #[] } := by cases h with | rng x => exact ⟨_, _, _, _, rfl, x⟩
theorem Rep.obj_i {g : Vis} {v : Value} {a : Addr} {l : List (Addr × Obj)} (h : Rep g v (.obj a l)) : v = .ref a ∧ ∀ p ∈ l, g p.1 p.2 := by cases h with | obj x => exact ⟨rfl, x⟩
theorem RepL.mono {g g' : Vis} (hg : ∀ a o, g a o → g' a o) {vs : List Value} {ds : List D} (h : RepL g vs ds) : RepL g' vs ds := by
  induction ds generalizing vs with
  | nil => rw [h.nil_i]; exact .nil
  | cons d ds ih => obtain ⟨v, ws, rfl, a, t⟩ := h.cons_i; exact .cons (a.mono hg) (ih t)
theorem RepL.length {g : Vis} {vs : List Value} {ds : List D} (h : RepL g vs ds) : vs.length = ds.length := by
  induction ds generalizing vs with
  | nil => rw [h.nil_i]; rfl
  | cons d ds ih => obtain ⟨v, ws, rfl, a, t⟩ := h.cons_i; rw [List.length_cons, List.length_cons, ih t]
theorem RepL.append {g : Vis} {vs ws : List Value} {ds es : List D} (h : RepL g vs ds) (h2 : RepL g ws es) : RepL g (vs ++ ws) (ds ++ es) := by
  induction ds generalizing vs with
  | nil => rw [h.nil_i]; exact h2
  | cons d ds ih => obtain ⟨v, us, rfl, a, t⟩ := h.cons_i; exact .cons a (ih t)
theorem RepL.get {g : Vis} {vs : List Value} {ds : List D} (h : RepL g vs ds) {i : Nat} {d : D} (hi : ds[i]? = some d) : ∃ v, vs[i]? = some v ∧ Rep g v d := by
  induction ds generalizing vs i with
  | nil => cases hi
  | cons e ds ih =>
    obtain ⟨v, us, rfl, a, t⟩ := h.cons_i
    cases i with
    | zero => cases hi; exact ⟨v, rfl, a⟩
    | succ i => exact ih t hi
theorem RepL.drop {g : Vis} {vs : List Value} {ds : List D} (n : Nat) (h : RepL g vs ds) : RepL g (vs.drop n) (ds.drop n) := by
  induction n generalizing vs ds with
  | zero => exact h
  | succ n ih =>
    cases ds with
    | nil => rw [h.nil_i]; exact .nil
    | cons d ds => obtain ⟨v, us, rfl, a, t⟩ := h.cons_i; exact ih t
theorem RepL.take {g : Vis} {vs : List Value} {ds : List D} (n : Nat) (h : RepL g vs ds) : RepL g (vs.take n) (ds.take n) := by
  induction n generalizing vs ds with
  | zero => exact .nil
  | succ n ih =>
    cases ds with
    | nil => rw [h.nil_i]; exact .nil
    | cons d ds => obtain ⟨v, us, rfl, a, t⟩ := h.cons_i; exact .cons a (ih t)
noncomputable def isTab (a : Addr) : Prop := a = 37 ∨ a = 44
noncomputable def TabOK (P line col : Nat) (qual : Str) (h : Heap) : Prop :=
  h.get? P = some (tabObj #[]) ∨ ∃ c', ¬ isTab c' ∧ h.get? P = some (tabObj #[rawInt line, rawInt col, .ref c']) ∧ h.CodeRec (.ref c') qual
structure TabsOK (h : Heap) : Prop where
  t1 : TabOK 37 62 4 "_int2digits.<locals>.inner" h
  t2 : TabOK 44 77 4 "_digits2int.<locals>.inner" h
noncomputable def TabC (h h' : Heap) : Prop := ∀ P, isTab P → h'.get? P = h.get? P ∨ ∃ l1 l2 c', ¬ isTab c' ∧ h.get? c' = none ∧ h'.get? P = some (tabObj #[l1, l2, .ref c'])
structure Step (s s' : Shared) : Prop where
  keep : ∀ a o, ¬ isTab a → s.heap.get? a = some o → s'.heap.get? a = some o
  tabs : TabsOK s.heap → TabsOK s'.heap ∧ TabC s.heap s'.heap
  gens : s'.gens = s.gens
  os : s'.os = s.os
theorem Step.refl (s : Shared) : Step s s := ⟨fun _ _ _ e => e, fun t => ⟨t, fun _ _ => .inl rfl⟩, rfl, rfl⟩
theorem Step.trans {s s' s'' : Shared} (x : Step s s') (y : Step s' s'') : Step s s'' :=
  ⟨fun a o h e => y.keep a o h (x.keep a o h e), fun h => ⟨(y.tabs (x.tabs h).1).1, fun P hP => by
    rcases (y.tabs (x.tabs h).1).2 P hP with e | ⟨l1, l2, c', n, f, e⟩
    · rcases (x.tabs h).2 P hP with e2 | ⟨l1, l2, c', n, f, e2⟩
      · exact .inl (e.trans e2)
      · exact .inr ⟨l1, l2, c', n, f, e.trans e2⟩
    · refine .inr ⟨l1, l2, c', n, ?_, e⟩
      cases q : s.heap.get? c' with
      | none => rfl
      | some o => rw [x.keep c' o n q] at f; cases f⟩, y.gens.trans x.gens, y.os.trans x.os⟩
theorem tab_live {h : Heap} (t : TabsOK h) : ∀ a, isTab a → ∃ o, h.get? a = some o := by
  rintro a (rfl | rfl)
  · rcases t.t1 with x | ⟨_, _, x, _⟩ <;> exact ⟨_, x⟩
  · rcases t.t2 with x | ⟨_, _, x, _⟩ <;> exact ⟨_, x⟩
theorem CodeRec.keepB {h h' : Heap} {cd : Value} {q : Str} (x : h.CodeRec cd q) (k : ∀ a o, ¬ isTab a → h.get? a = some o → h'.get? a = some o) (hc : ∀ c, cd = .ref c → ¬ isTab c) : h'.CodeRec cd q := by
  obtain ⟨c, oc, vs, tq, e1, e2, e3, e4⟩ := x
  exact ⟨c, oc, vs, tq, e1, k _ _ (hc c e1) e2, e3, e4⟩
theorem TabOK.keeps {h h' : Heap} {P line col : Nat} {q : Str} (x : TabOK P line col q h) (k : ∀ a o, h.get? a = some o → h'.get? a = some o) : TabOK P line col q h' := by
  rcases x with x | ⟨c', n, e, r⟩
  · exact .inl (k _ _ x)
  · exact .inr ⟨c', n, k _ _ e, CodeRec.keepB r (fun a o _ e => k a o e) (fun c hc => by cases hc; exact n)⟩
theorem TabsOK.keeps {h h' : Heap} (x : TabsOK h) (k : ∀ a o, h.get? a = some o → h'.get? a = some o) : TabsOK h' := ⟨x.t1.keeps k, x.t2.keeps k⟩
theorem Step.of {s : Shared} {h' : Heap} {tk : Nat} (k : ∀ a o, s.heap.get? a = some o → h'.get? a = some o) : Step s { s with heap := h', toks := tk } :=
  ⟨fun a o _ e => k a o e, fun t => ⟨t.keeps k, fun P hP => .inl (by
    obtain ⟨o, e⟩ := tab_live t P hP
    exact (k _ _ e).trans e.symm)⟩, rfl, rfl⟩
theorem Step.tok {s : Shared} {tk : Nat} : Step s { s with toks := tk } := Step.of (fun _ _ e => e)
theorem Step.push {s : Shared} {o : Obj} {tk : Nat} : Step s { s with heap := s.heap.push o, toks := tk } :=
  Step.of (fun _ _ e => Heap.get?_push_of_some _ e)
theorem Step.push' {s : Shared} {o : Obj} : Step s { s with heap := s.heap.push o } := Step.push
theorem vis_step {Mu : Addr → Prop} {s s' : Shared} (ht : ∀ a, isTab a → Mu a) (x : Step s s') : ∀ a o, vis Mu s.heap a o → vis Mu s'.heap a o :=
  fun a o h => ⟨h.1, x.keep a o (fun t => h.1 (ht a t)) h.2⟩
structure Base where
  w : World
  hb : Heap
  mg : Str → Option Value
  mb : Str → Option Value
  os : OsState
  g : hb.Ns mainGlobals mg
  b : hb.Ns builtinsNs mb
  nolimit : hb.NoLimit
  bi : ∀ p ∈ biList, mg p.1 = none ∧ mb p.1 = some p.2
  FD : Addr → Option FuncData
  fn : ∀ a fd, FD a = some fd → ∃ o, hb.get? a = some o ∧ o.data = .func fd ∧ hb.CodeRec fd.code fd.qualname
structure OK (C : Base) (Mu : Addr → Prop) (s : Shared) : Prop where
  keep : ∀ a o, C.hb.get? a = some o → s.heap.get? a = some o
  hb : ∀ a o, C.hb.get? a = some o → ¬ Mu a
  tabs : TabsOK s.heap
  gens : s.gens = #[]
  os : s.os = C.os
  live : ∀ a, Mu a → ∃ o, s.heap.get? a = some o
  tab : ∀ a, isTab a → Mu a
  code : ∀ P l1 l2 c', isTab P → s.heap.get? P = some (tabObj #[l1, l2, .ref c']) → ¬ Mu c'
theorem OK.lt {C : Base} {Mu : Addr → Prop} {s : Shared} (x : OK C Mu s) : ∀ a, Mu a → a < s.heap.objs.size := fun a h => let ⟨_, e⟩ := x.live a h; Heap.lt_size e
theorem OK.step {C : Base} {Mu : Addr → Prop} {s s' : Shared} (x : OK C Mu s) (y : Step s s') : OK C Mu s' :=
  ⟨fun a o e => y.keep a o (fun t => x.hb a o e (x.tab a t)) (x.keep a o e), x.hb, (y.tabs x.tabs).1, y.gens.trans x.gens, y.os.trans x.os,
    fun a h => by
      by_cases ht : isTab a
      · exact tab_live (y.tabs x.tabs).1 a ht
      · obtain ⟨o, e⟩ := x.live a h; exact ⟨o, y.keep a o ht e⟩, x.tab, fun P l1 l2 c' hP e => by
      rcases (y.tabs x.tabs).2 P hP with e2 | ⟨m1, m2, c₂, n, f, e2⟩
      · exact x.code P l1 l2 c' hP (e2 ▸ e)
      · rw [e2] at e
        have : c₂ = c' := by simp [tabObj] at e; exact e.2.2
        subst this
        intro hm
        obtain ⟨o, e3⟩ := x.live _ hm
        rw [e3] at f; cases f⟩
theorem OK.vis {C : Base} {Mu : Addr → Prop} {s s' : Shared} (x : OK C Mu s) (y : Step s s') : ∀ a o, vis Mu s.heap a o → vis Mu s'.heap a o := vis_step x.tab y
noncomputable def Rm (k : Nat) (A : Around) : Prop := A.handled = none ∧ A.depth + k ≤ 950 ∧ A.units + 8 * k ≤ 9000
theorem Rm.mono {k k' : Nat} {A : Around} (h : Rm k A) (hk : k' ≤ k := by omega) : Rm k' A := ⟨h.1, by have := h.2.1; omega, by have := h.2.2; omega⟩
theorem Rm.in1 {k : Nat} {A : Around} (h : Rm (k + 1) A) : Rm k A.in1 := ⟨h.1, by have := h.2.1; show A.depth + k ≤ 950; omega, by have := h.2.2; show A.units + 1 + 8 * k ≤ 9000; omega⟩
theorem Rm.deeper {k : Nat} {A : Around} {env : Env} (h : Rm (k + 1) A) : Rm k (A.deeper env) := ⟨h.1, by have := h.2.1; show A.depth + 1 + k ≤ 950; omega, by have := h.2.2; show A.units + 3 + 8 * k ≤ 9000; omega⟩
theorem Rm.room {k : Nat} {A : Around} (h : Rm k A) : A.depth < recursionLimit := by have := h.2.1; show A.depth < 1000; omega
theorem Rm.units {k : Nat} {A : Around} (h : Rm k A) : A.units + 64 < cLine := by have := h.2.2; show A.units + 64 < 9900; omega


structure Fn where
  env : Env
  Mu : Addr → Prop
  Kp : Vis
  h₀ : Heap
  own : Addr → Prop
structure FnOK (F : Fn) : Prop where
  kind : F.env.scope.kind = .function
  ownL : F.own F.env.locals
  ownMu : ∀ a, F.own a → F.Mu a
  ownKp : ∀ a o, F.Kp a o → ¬ F.own a
  glob : F.env.globals = mainGlobals
  bi : F.env.builtins = builtinsNs
noncomputable abbrev Rho := List (Str × D)
noncomputable def At (F : Fn) (h : Heap) (m : Str → Option Value) (x : Str) (v : Value) : Prop :=
  (F.env.kindOf x = some .local ∧ m x = some v) ∨
  ((F.env.kindOf x = some .cell ∨ (F.env.kindOf x = some .free ∧ (x == ("__classdict__" : Str)) = false)) ∧ ∃ c, F.env.cells.lookup x = some c ∧ h.IsCell c (some v))
noncomputable def listO (vs : List Value) (n : Nat) : Obj := { cls := .type "list", data := .seq vs.toArray n }
noncomputable def HasV (F : Fn) (h : Heap) (v : Value) : D → Prop
  | .own ds => ∃ l vs n, v = .ref l ∧ F.own l ∧ h.get? l = some (listO vs n) ∧ RepL (vis F.Mu h) vs ds
  | .itr ds => ∃ I l i vs n, v = .ref I ∧ F.own I ∧ h.IsListIter I l i ∧ vis F.Mu h l (listO vs n) ∧ RepL (vis F.Mu h) (vs.drop i) ds
  | d => Rep (vis F.Mu h) v d
theorem HasV.of {F : Fn} {h : Heap} {v : Value} {d : D} (r : Rep (vis F.Mu h) v d) : HasV F h v d := by
  cases d with
  | own l => cases r
  | itr l => cases r
  | _ => exact r
theorem HasV.rep {F : Fn} {h : Heap} {v : Value} {d : D} (r : HasV F h v d) (hd : d.isOwn = false) : Rep (vis F.Mu h) v d := by
  cases d with
  | own l => cases hd
  | itr l => cases hd
  | _ => exact r
noncomputable def plainO (o : Obj) : Bool := match o.data with | .seq .. => true | .fields .. => o.cls == .type "list_iterator" | _ => false
theorem HasV.mono {F F₂ : Fn} {h h' : Heap} {v : Value} {d : D} (hv : ∀ a o, vis F.Mu h a o → vis F₂.Mu h' a o) (ho : ∀ a o, F.own a → plainO o = true → h.get? a = some o → F₂.own a ∧ h'.get? a = some o) (r : HasV F h v d) : HasV F₂ h' v d := by
  cases d with
  | own l =>
    obtain ⟨l, vs, n, rfl, w, e, q⟩ := r
    obtain ⟨w', e'⟩ := ho l _ w rfl e
    exact ⟨l, vs, n, rfl, w', e', q.mono hv⟩
  | itr l =>
    obtain ⟨I, l, i, vs, n, rfl, w, e, x, q⟩ := r
    obtain ⟨o, e1, e2, e3⟩ := e
    obtain ⟨w', e'⟩ := ho I _ w (by unfold plainO; rw [e3, e2]; rfl) e1
    exact ⟨I, l, i, vs, n, rfl, w', ⟨o, e', e2, e3⟩, hv _ _ x, q.mono hv⟩
  | _ => exact Rep.mono hv r
theorem plain_ne_dict {o : Obj} {h : Heap} {a : Addr} {m} (hn : h.Ns a m) (e : h.get? a = some o) : plainO o = false := by
  obtain ⟨o', es, ep, e', hd, _⟩ := hn
  rw [e] at e'; cases e'; unfold plainO; rw [hd]
theorem plain_ne_cell {o : Obj} {h : Heap} {a : Addr} {v} (hn : h.IsCell a v) (e : h.get? a = some o) : plainO o = false := by
  obtain ⟨o', e', hd⟩ := hn
  rw [e] at e'; cases e'; unfold plainO; rw [hd]
noncomputable def Has (F : Fn) (h : Heap) (m : Str → Option Value) (x : Str) (d : D) : Prop := ∃ v, HasV F h v d ∧ At F h m x v
structure Since (h h' : Heap) : Prop where
  live : ∀ a o, h.get? a = some o → ∃ o', h'.get? a = some o'
  tabc : TabC h h'
theorem Since.refl (h : Heap) : Since h h := ⟨fun _ o e => ⟨o, e⟩, fun _ _ => .inl rfl⟩
theorem Since.trans {h h' h'' : Heap} (x : Since h h') (y : Since h' h'') : Since h h'' :=
  ⟨fun a o e => let ⟨_, e'⟩ := x.live a o e; y.live a _ e', fun P hP => by
    rcases y.tabc P hP with e | ⟨l1, l2, c', n, f, e⟩
    · rcases x.tabc P hP with e2 | ⟨l1, l2, c', n, f, e2⟩
      · exact .inl (e.trans e2)
      · exact .inr ⟨l1, l2, c', n, f, e.trans e2⟩
    · refine .inr ⟨l1, l2, c', n, ?_, e⟩
      cases q : h.get? c' with
      | none => rfl
      | some o => obtain ⟨_, e'⟩ := x.live c' o q; rw [e'] at f; cases f⟩
theorem Step.since {s s' : Shared} (y : Step s s') (t : TabsOK s.heap) : Since s.heap s'.heap :=
  ⟨fun a o e => by
    by_cases ht : isTab a
    · exact tab_live (y.tabs t).1 a ht
    · exact ⟨o, y.keep a o ht e⟩, (y.tabs t).2⟩
theorem Since.sameBut {h h' : Heap} {c : Addr} (hn : ¬ isTab c) (hs : Heap.SameBut c h h') (hl : ∃ o, h'.get? c = some o) : Since h h' :=
  ⟨fun a o e => by
    by_cases q : a = c
    · subst q; exact hl
    · exact ⟨o, (hs.2 a q).trans e⟩, fun P hP => .inl (hs.2 P fun q => hn (q ▸ hP))⟩
structure St (C : Base) (F : Fn) (ρ : Rho) (s : Shared) : Prop where
  ok : OK C F.Mu s
  kept : ∀ a o, F.Kp a o → s.heap.get? a = some o
  since : Since F.h₀ s.heap
  cells : ∀ x c, F.env.cells.lookup x = some c → ∃ v, s.heap.IsCell c v
  fr : ∃ m, s.heap.Ns F.env.locals m ∧ ∀ p ∈ ρ, Has F s.heap m p.1 p.2
theorem tab_fields {h : Heap} (t : TabsOK h) {a : Addr} (ha : isTab a) : ∃ vs, h.get? a = some (tabObj vs) := by
  rcases ha with rfl | rfl
  · rcases t.t1 with x | ⟨_, _, x, _⟩ <;> exact ⟨_, x⟩
  · rcases t.t2 with x | ⟨_, _, x, _⟩ <;> exact ⟨_, x⟩
theorem notTab_of {h : Heap} {a : Addr} {o : Obj} (t : TabsOK h) (e : h.get? a = some o) (hd : ∀ vs, o.data ≠ .fields vs) : ¬ isTab a := fun ha => by
  obtain ⟨vs, x⟩ := tab_fields t ha
  rw [e] at x; cases x; exact hd vs rfl
theorem notTab_ns {h : Heap} {a : Addr} {m} (t : TabsOK h) (n : h.Ns a m) : ¬ isTab a := by
  obtain ⟨o, es, ep, e, hd, _⟩ := n
  exact notTab_of t e fun vs q => by rw [hd] at q; cases q
theorem notTab_cell {h : Heap} {a : Addr} {v} (t : TabsOK h) (n : h.IsCell a v) : ¬ isTab a := by
  obtain ⟨o, e, hd⟩ := n
  exact notTab_of t e fun vs q => by rw [hd] at q; cases q
theorem notTab_seq {h : Heap} {a : Addr} {o : Obj} {its n} (t : TabsOK h) (e : h.get? a = some o) (hd : o.data = .seq its n) : ¬ isTab a :=
  notTab_of t e fun vs q => by rw [hd] at q; cases q
theorem ns_step {s s' : Shared} (y : Step s s') (t : TabsOK s.heap) {a : Addr} {m} (n : s.heap.Ns a m) : s'.heap.Ns a m := by
  have nt := notTab_ns t n
  obtain ⟨o, es, ep, e, r⟩ := n
  exact ⟨o, es, ep, y.keep _ _ nt e, r⟩
theorem cell_step {s s' : Shared} (y : Step s s') (t : TabsOK s.heap) {a : Addr} {v} (n : s.heap.IsCell a v) : s'.heap.IsCell a v := by
  have nt := notTab_cell t n
  obtain ⟨o, e, r⟩ := n
  exact ⟨o, y.keep _ _ nt e, r⟩
theorem At.step {F : Fn} {s s' : Shared} {m : Str → Option Value} {x : Str} {v : Value} (h : At F s.heap m x v) (t : TabsOK s.heap) (y : Step s s') : At F s'.heap m x v := by
  rcases h with h | ⟨h1, c, h2, h3⟩
  · exact .inl h
  · exact .inr ⟨h1, c, h2, cell_step y t h3⟩
theorem Has.step {C : Base} {F : Fn} {s s' : Shared} {m : Str → Option Value} {x : Str} {d : D} (h : Has F s.heap m x d) (o : OK C F.Mu s) (y : Step s s') : Has F s'.heap m x d := by
  obtain ⟨v, r, a⟩ := h
  exact ⟨v, r.mono (o.vis y) (fun a ob w p e => ⟨w, y.keep a ob (fun t => by obtain ⟨vs, q⟩ := tab_fields o.tabs t; rw [e] at q; cases q; cases p) e⟩), a.step o.tabs y⟩
theorem St.step {C : Base} {F : Fn} {ρ : Rho} {s s' : Shared} (h : St C F ρ s) (y : Step s s') (hk : ∀ a o, F.Kp a o → ¬ isTab a) : St C F ρ s' := by
  obtain ⟨m, n, hh⟩ := h.fr
  exact ⟨h.ok.step y, fun a o e => y.keep a o (hk a o e) (h.kept a o e), h.since.trans (y.since h.ok.tabs), fun x c e => let ⟨v, hc⟩ := h.cells x c e; ⟨v, cell_step y h.ok.tabs hc⟩, m, ns_step y h.ok.tabs n, fun p hp => (hh p hp).step h.ok y⟩
@[irreducible] noncomputable def T2 (C : Base) (k : Nat) (Mu : Addr → Prop) (d1 d2 : D) (f : Value → Value → Sem Value) (d : D) : Prop :=
  ∀ (prog : Program) (A : Around) (s : Shared) (v1 v2 : Value) (Q : Value → Shared → Prop) (E : Value → Shared → Prop), Rm k A → OK C Mu s → Rep (vis Mu s.heap) v1 d1 → Rep (vis Mu s.heap) v2 d2 →
    (∀ v s', Step s s' → Rep (vis Mu s'.heap) v d → Q v s') → wpAny (model prog C.w) A (f v1 v2) Q E s
theorem T2.mk {C : Base} {k : Nat} {Mu : Addr → Prop} {d1 d2 : D} {f : Value → Value → Sem Value} {d : D} (h :
  ∀ (prog : Program) (A : Around) (s : Shared) (v1 v2 : Value) (Q : Value → Shared → Prop) (E : Value → Shared → Prop), Rm k A → OK C Mu s → Rep (vis Mu s.heap) v1 d1 → Rep (vis Mu s.heap) v2 d2 →
    (∀ v s', Step s s' → Rep (vis Mu s'.heap) v d → Q v s') → wpAny (model prog C.w) A (f v1 v2) Q E s) : T2 C k Mu d1 d2 f d := by unfold T2; exact h
theorem T2.run {C : Base} {k : Nat} {Mu : Addr → Prop} {d1 d2 : D} {f : Value → Value → Sem Value} {d : D} (h : T2 C k Mu d1 d2 f d) :
  ∀ (prog : Program) (A : Around) (s : Shared) (v1 v2 : Value) (Q : Value → Shared → Prop) (E : Value → Shared → Prop), Rm k A → OK C Mu s → Rep (vis Mu s.heap) v1 d1 → Rep (vis Mu s.heap) v2 d2 →
    (∀ v s', Step s s' → Rep (vis Mu s'.heap) v d → Q v s') → wpAny (model prog C.w) A (f v1 v2) Q E s := by unfold T2 at h; exact h
@[irreducible] noncomputable def T1 (C : Base) (k : Nat) (Mu : Addr → Prop) (d1 : D) (f : Value → Sem Value) (d : D) : Prop :=
  ∀ (prog : Program) (A : Around) (s : Shared) (v1 : Value) (Q : Value → Shared → Prop) (E : Value → Shared → Prop), Rm k A → OK C Mu s → Rep (vis Mu s.heap) v1 d1 →
    (∀ v s', Step s s' → Rep (vis Mu s'.heap) v d → Q v s') → wpAny (model prog C.w) A (f v1) Q E s
theorem T1.mk {C : Base} {k : Nat} {Mu : Addr → Prop} {d1 : D} {f : Value → Sem Value} {d : D} (h :
  ∀ (prog : Program) (A : Around) (s : Shared) (v1 : Value) (Q : Value → Shared → Prop) (E : Value → Shared → Prop), Rm k A → OK C Mu s → Rep (vis Mu s.heap) v1 d1 →
    (∀ v s', Step s s' → Rep (vis Mu s'.heap) v d → Q v s') → wpAny (model prog C.w) A (f v1) Q E s) : T1 C k Mu d1 f d := by unfold T1; exact h
theorem T1.run {C : Base} {k : Nat} {Mu : Addr → Prop} {d1 : D} {f : Value → Sem Value} {d : D} (h : T1 C k Mu d1 f d) :
  ∀ (prog : Program) (A : Around) (s : Shared) (v1 : Value) (Q : Value → Shared → Prop) (E : Value → Shared → Prop), Rm k A → OK C Mu s → Rep (vis Mu s.heap) v1 d1 →
    (∀ v s', Step s s' → Rep (vis Mu s'.heap) v d → Q v s') → wpAny (model prog C.w) A (f v1) Q E s := by unfold T1 at h; exact h
@[irreducible] noncomputable def TL (C : Base) (k : Nat) (Mu : Addr → Prop) (ds : List D) (f : List Value → Sem Value) (d : D) : Prop :=
  ∀ (prog : Program) (A : Around) (s : Shared) (vs : List Value) (Q : Value → Shared → Prop) (E : Value → Shared → Prop), Rm k A → OK C Mu s → RepL (vis Mu s.heap) vs ds →
    (∀ v s', Step s s' → Rep (vis Mu s'.heap) v d → Q v s') → wpAny (model prog C.w) A (f vs) Q E s
theorem TL.mk {C : Base} {k : Nat} {Mu : Addr → Prop} {ds : List D} {f : List Value → Sem Value} {d : D} (h :
  ∀ (prog : Program) (A : Around) (s : Shared) (vs : List Value) (Q : Value → Shared → Prop) (E : Value → Shared → Prop), Rm k A → OK C Mu s → RepL (vis Mu s.heap) vs ds →
    (∀ v s', Step s s' → Rep (vis Mu s'.heap) v d → Q v s') → wpAny (model prog C.w) A (f vs) Q E s) : TL C k Mu ds f d := by unfold TL; exact h
theorem TL.run {C : Base} {k : Nat} {Mu : Addr → Prop} {ds : List D} {f : List Value → Sem Value} {d : D} (h : TL C k Mu ds f d) :
  ∀ (prog : Program) (A : Around) (s : Shared) (vs : List Value) (Q : Value → Shared → Prop) (E : Value → Shared → Prop), Rm k A → OK C Mu s → RepL (vis Mu s.heap) vs ds →
    (∀ v s', Step s s' → Rep (vis Mu s'.heap) v d → Q v s') → wpAny (model prog C.w) A (f vs) Q E s := by unfold TL at h; exact h
@[irreducible] noncomputable def EV (C : Base) (k : Nat) (F : Fn) (ρ : Rho) (e : Expr) (d : D) : Prop :=
  ∀ (prog : Program) (A : Around) (s : Shared) (Q : Value → Shared → Prop) (E : Value → Shared → Prop), Rm k A → St C F ρ s →
    (∀ v s', Step s s' → Rep (vis F.Mu s'.heap) v d → Q v s') → wpAny (model prog C.w) A (eval e F.env) Q E s
theorem EV.mk {C : Base} {k : Nat} {F : Fn} {ρ : Rho} {e : Expr} {d : D} (h :
  ∀ (prog : Program) (A : Around) (s : Shared) (Q : Value → Shared → Prop) (E : Value → Shared → Prop), Rm k A → St C F ρ s →
    (∀ v s', Step s s' → Rep (vis F.Mu s'.heap) v d → Q v s') → wpAny (model prog C.w) A (eval e F.env) Q E s) : EV C k F ρ e d := by unfold EV; exact h
theorem EV.run {C : Base} {k : Nat} {F : Fn} {ρ : Rho} {e : Expr} {d : D} (h : EV C k F ρ e d) :
  ∀ (prog : Program) (A : Around) (s : Shared) (Q : Value → Shared → Prop) (E : Value → Shared → Prop), Rm k A → St C F ρ s →
    (∀ v s', Step s s' → Rep (vis F.Mu s'.heap) v d → Q v s') → wpAny (model prog C.w) A (eval e F.env) Q E s := by unfold EV at h; exact h
@[irreducible] noncomputable def EVs (C : Base) (k : Nat) (F : Fn) (ρ : Rho) (es : List Expr) (ds : List D) : Prop :=
  ∀ (prog : Program) (pos : Pos) (A : Around) (s : Shared) (Q : List Value → Shared → Prop) (E : Value → Shared → Prop), Rm k A → St C F ρ s →
    (∀ v s', Step s s' → RepL (vis F.Mu s'.heap) v ds → Q v s') → wpAny (model prog C.w) A (spliced (backTo pos (starEach es F.env))) Q E s
theorem EVs.mk {C : Base} {k : Nat} {F : Fn} {ρ : Rho} {es : List Expr} {ds : List D} (h :
  ∀ (prog : Program) (pos : Pos) (A : Around) (s : Shared) (Q : List Value → Shared → Prop) (E : Value → Shared → Prop), Rm k A → St C F ρ s →
    (∀ v s', Step s s' → RepL (vis F.Mu s'.heap) v ds → Q v s') → wpAny (model prog C.w) A (spliced (backTo pos (starEach es F.env))) Q E s) : EVs C k F ρ es ds := by unfold EVs; exact h
theorem EVs.run {C : Base} {k : Nat} {F : Fn} {ρ : Rho} {es : List Expr} {ds : List D} (h : EVs C k F ρ es ds) :
  ∀ (prog : Program) (pos : Pos) (A : Around) (s : Shared) (Q : List Value → Shared → Prop) (E : Value → Shared → Prop), Rm k A → St C F ρ s →
    (∀ v s', Step s s' → RepL (vis F.Mu s'.heap) v ds → Q v s') → wpAny (model prog C.w) A (spliced (backTo pos (starEach es F.env))) Q E s := by unfold EVs at h; exact h
@[irreducible] noncomputable def TT (C : Base) (k : Nat) (F : Fn) (ρ : Rho) (e : Expr) (b : Bool) : Prop :=
  ∀ (prog : Program) (A : Around) (s : Shared) (Q : Bool → Shared → Prop) (E : Value → Shared → Prop), Rm k A → St C F ρ s →
    (∀ s', Step s s' → Q b s') → wpAny (model prog C.w) A (isTrue e F.env (eval e F.env)) Q E s
theorem TT.mk {C : Base} {k : Nat} {F : Fn} {ρ : Rho} {e : Expr} {b : Bool} (h :
  ∀ (prog : Program) (A : Around) (s : Shared) (Q : Bool → Shared → Prop) (E : Value → Shared → Prop), Rm k A → St C F ρ s →
    (∀ s', Step s s' → Q b s') → wpAny (model prog C.w) A (isTrue e F.env (eval e F.env)) Q E s) : TT C k F ρ e b := by unfold TT; exact h
theorem TT.run {C : Base} {k : Nat} {F : Fn} {ρ : Rho} {e : Expr} {b : Bool} (h : TT C k F ρ e b) :
  ∀ (prog : Program) (A : Around) (s : Shared) (Q : Bool → Shared → Prop) (E : Value → Shared → Prop), Rm k A → St C F ρ s →
    (∀ s', Step s s' → Q b s') → wpAny (model prog C.w) A (isTrue e F.env (eval e F.env)) Q E s := by unfold TT at h; exact h
structure FOK (F : Fn) : Prop extends FnOK F where
  nt : ∀ a o, F.Kp a o → ¬ isTab a
theorem FOK.mu {F : Fn} (H : FOK F) : F.Mu F.env.locals := H.ownMu _ H.ownL
theorem FOK.kp {F : Fn} (H : FOK F) : ∀ o, ¬ F.Kp F.env.locals o := fun o h => H.ownKp _ o h H.ownL
section
variable {C : Base} {k : Nat} {F : Fn} {ρ : Rho}
theorem EV.int (i : Int) {n pos} : EV C k F ρ (.Constant (.int i) n pos) (.int i) := EV.mk fun _ _ _ _ _ _ _ hQ => wpAny_Constant_int (hQ _ _ Step.tok (.int _ _))
theorem EV.bool (b : Bool) {n pos} : EV C k F ρ (.Constant (.bool b) n pos) (.bool b) := EV.mk fun _ _ _ _ _ _ _ hQ => wpAny_pure (hQ _ _ (Step.refl _) (.bool _))
theorem EV.nun {n pos} : EV C k F ρ (.Constant .none n pos) .none := EV.mk fun _ _ _ _ _ _ _ hQ => wpAny_pure (hQ _ _ (Step.refl _) .none)
theorem EV.str {x : Str} {l : List Nat} {n pos} (h : x = mkS l) : EV C k F ρ (.Constant (.str x) n pos) (.str l) := EV.mk fun _ _ _ _ _ _ _ hQ => Calls.Constant_str (hQ _ _ Step.tok (h ▸ .str _ _))
theorem EV.name (H : FOK F) {x : Str} {d : D} {pos} (hm : (x, d) ∈ ρ) (hd : (x == ("__debug__" : Str)) = false := by decide +kernel) (ho : d.isOwn = false := by rfl) : EV C k F ρ (.Name x pos) d := by
  refine EV.mk ?_
  intro prog A s Q E hA hs hQ
  obtain ⟨m, n, hh⟩ := hs.fr
  obtain ⟨v, r', a⟩ := hh _ hm
  have r := r'.rep ho
  refine wpAny_Name ?_ hd
  have hk := H.kind
  rcases a with ⟨h1, h2⟩ | ⟨h1 | ⟨h1, h1'⟩, c, h2, h3⟩
  · exact wpAny_loadName_local hk h1 n h2 (hQ _ _ (Step.refl _) r)
  · exact wpAny_loadName_cell hk h1 h2 h3 (hQ _ _ (Step.refl _) r)
  · exact wpAny_loadName_free hk h1 h2 h3 (hQ _ _ (Step.refl _) r) h1'
theorem St.mg (H : FOK F) {s : Shared} (hs : St C F ρ s) : s.heap.Ns F.env.globals C.mg := by
  rw [H.glob]; exact C.g.keeps hs.ok.keep
theorem St.mb (H : FOK F) {s : Shared} (hs : St C F ρ s) : s.heap.Ns F.env.builtins C.mb := by
  rw [H.bi]; exact C.b.keeps hs.ok.keep
theorem EV.global (H : FOK F) {x : Str} {v : Value} {d : D} {pos} (hx : F.env.kindOf x = some .globalImplicit) (hv : C.mg x = some v) (hr : ∀ g, Rep g v d) (hd : (x == ("__debug__" : Str)) = false := by decide +kernel) : EV C k F ρ (.Name x pos) d := by
  refine EV.mk ?_
  intro prog A s Q E hA hs hQ
  exact Calls.Name_function_global H.kind hx (Calls.loadGlobal_global (hs.mg H) hv (hQ _ _ (Step.refl _) (hr _))) hd
theorem EV.bin (H : FOK F) {l r : Expr} {op pos} {d1 d2 d : D} (h1 : EV C k F ρ l d1) (h2 : EV C k F ρ r d2) (hop : T2 C k F.Mu d1 d2 (binaryOp op) d) : EV C k F ρ (.BinOp l op r pos) d := by
  refine EV.mk ?_
  intro prog A s Q E hA hs hQ
  refine wpAny_BinOp (h1.run _ _ _ _ _ hA hs fun v1 s1 y1 r1 => ?_)
  have hs1 := hs.step y1 H.nt
  refine h2.run _ _ _ _ _ hA hs1 fun v2 s2 y2 r2 => ?_
  have hs2 := hs1.step y2 H.nt
  exact hop.run _ _ _ _ _ _ _ hA hs2.ok (r1.mono (hs1.ok.vis y2)) r2 fun v s3 y3 r3 => hQ v s3 (y1.trans (y2.trans y3)) r3
theorem EV.cmp (H : FOK F) {l r : Expr} {op pos} {d1 d2 d : D} (h1 : EV C k F ρ l d1) (h2 : EV C k F ρ r d2) (hop : T2 C k F.Mu d1 d2 (compareOp op) d)
    (hm : behindInMarks op r = false := by with_unfolding_all rfl) : EV C k F ρ (.Compare l [op] [r] pos) d := by
  refine EV.mk ?_
  intro prog A s Q E hA hs hQ
  refine wpAny_Compare1 (h1.run _ _ _ _ _ hA hs fun v1 s1 y1 r1 => ?_) hm
  have hs1 := hs.step y1 H.nt
  refine h2.run _ _ _ _ _ hA hs1 fun v2 s2 y2 r2 => ?_
  have hs2 := hs1.step y2 H.nt
  exact hop.run _ _ _ _ _ _ _ hA hs2.ok (r1.mono (hs1.ok.vis y2)) r2 fun v s3 y3 r3 => hQ v s3 (y1.trans (y2.trans y3)) r3
theorem TT.cmp (H : FOK F) {l r : Expr} {op pos} {d1 d2 : D} {b : Bool} (h1 : EV C k F ρ l d1) (h2 : EV C k F ρ r d2) (hop : T2 C k F.Mu d1 d2 (compareOp op) (.bool b))
    (hm : behindInMarks op r = false := by with_unfolding_all rfl) : TT C k F ρ (.Compare l [op] [r] pos) b := by
  refine TT.mk ?_
  intro prog A s Q E hA hs hQ
  refine wpAny_isTrue_Compare1 (h1.run _ _ _ _ _ hA hs fun v1 s1 y1 r1 => ?_) hm
  have hs1 := hs.step y1 H.nt
  refine h2.run _ _ _ _ _ hA hs1 fun v2 s2 y2 r2 => ?_
  have hs2 := hs1.step y2 H.nt
  refine hop.run _ _ _ _ _ _ _ hA hs2.ok (r1.mono (hs1.ok.vis y2)) r2 fun v s3 y3 r3 => ?_
  obtain rfl := r3.bool_i
  exact wpAny_truthy_bool (hQ _ (y1.trans (y2.trans y3)))
theorem EVs.nil : EVs C k F ρ [] [] := EVs.mk fun _ _ _ s _ _ _ _ hQ => spliced_none (hQ _ _ (Step.refl _) .nil)
theorem EVs.cons (H : FOK F) {e : Expr} {es : List Expr} {d : D} {ds : List D} (h1 : EV C k F ρ e d) (h2 : EVs C k F ρ es ds)
    (he : starEach (e :: es) F.env = (false, eval e F.env) :: starEach es F.env := by rfl) : EVs C k F ρ (e :: es) (d :: ds) := by
  refine EVs.mk ?_
  intro prog pos A s Q E hA hs hQ
  refine spliced_more (h1.run _ _ _ _ _ hA hs fun v1 s1 y1 r1 => ?_) he
  have hs1 := hs.step y1 H.nt
  exact h2.run _ _ _ _ _ _ hA hs1 fun v2 s2 y2 r2 => hQ _ _ (y1.trans y2) (.cons (r1.mono (hs1.ok.vis y2)) r2)
end
theorem mkS_len (l : List Nat) : (mkS l).length = l.length := by simp [mkS, Str.length]
theorem mkS_append (a b : List Nat) : mkS a ++ mkS b = mkS (a ++ b) := by
  show (Str.mk (a.toArray ++ b.toArray)) = _
  simp
theorem mkS_inj {a b : List Nat} (h : mkS a = mkS b) : a = b := by
  simpa [mkS] using h
section
variable {C : Base} {k : Nat} {Mu : Addr → Prop} {a b : Int} {x y : List Nat}
theorem T2.add : T2 C k Mu (.int a) (.int b) (binaryOp .Add) (.int (a + b)) := by
  refine T2.mk ?_
  intro prog A s v1 v2 Q E hA ho h1 h2 hQ; obtain ⟨t1, rfl⟩ := h1.int_i; obtain ⟨t2, rfl⟩ := h2.int_i; exact P.add_int (hQ _ _ Step.tok (.int _ _))
theorem T2.sub : T2 C k Mu (.int a) (.int b) (binaryOp .Sub) (.int (a - b)) := by
  refine T2.mk ?_
  intro prog A s v1 v2 Q E hA ho h1 h2 hQ; obtain ⟨t1, rfl⟩ := h1.int_i; obtain ⟨t2, rfl⟩ := h2.int_i; exact P.sub_int (hQ _ _ Step.tok (.int _ _))
theorem T2.mul (h : IntMulOk a b) : T2 C k Mu (.int a) (.int b) (binaryOp .Mult) (.int (a * b)) := by
  refine T2.mk ?_
  intro prog A s v1 v2 Q E hA ho h1 h2 hQ; obtain ⟨t1, rfl⟩ := h1.int_i; obtain ⟨t2, rfl⟩ := h2.int_i; exact P.mul_int (hQ _ _ Step.tok (.int _ _)) h
theorem T2.fdiv (h : b ≠ 0) (hp : Builtin.divisionGoesByPylong a b = false) : T2 C k Mu (.int a) (.int b) (binaryOp .FloorDiv) (.int (a.fdiv b)) := by
  refine T2.mk ?_
  intro prog A s v1 v2 Q E hA ho h1 h2 hQ; obtain ⟨t1, rfl⟩ := h1.int_i; obtain ⟨t2, rfl⟩ := h2.int_i; exact floordiv_int h (hQ _ _ Step.tok (.int _ _)) (.inl hp)
theorem T2.fmod (h : b ≠ 0) : T2 C k Mu (.int a) (.int b) (binaryOp .Mod) (.int (a.fmod b)) := by
  refine T2.mk ?_
  intro prog A s v1 v2 Q E hA ho h1 h2 hQ; obtain ⟨t1, rfl⟩ := h1.int_i; obtain ⟨t2, rfl⟩ := h2.int_i; exact mod_int h (hQ _ _ Step.tok (.int _ _))
theorem T2.pow (h : 0 ≤ b) (h2 : (Builtin.Int.intBits a : Int) * b ≤ 2 ^ 27) : T2 C k Mu (.int a) (.int b) (binaryOp .Pow) (.int (a ^ b.toNat)) := by
  refine T2.mk ?_
  intro prog A s v1 v2 Q E hA ho h1 h2 hQ; obtain ⟨t1, rfl⟩ := h1.int_i; obtain ⟨t2, rfl⟩ := h2.int_i; exact pow_int h (by assumption) (hQ _ _ Step.tok (.int _ _))
theorem T2.shl (h : 0 ≤ b) (h2 : (Builtin.Int.intBits a : Int) + b ≤ 2 ^ 27) : T2 C k Mu (.int a) (.int b) (binaryOp .LShift) (.int (a * 2 ^ b.toNat)) := by
  refine T2.mk ?_
  intro prog A s v1 v2 Q E hA ho h1 h2 hQ; obtain ⟨t1, rfl⟩ := h1.int_i; obtain ⟨t2, rfl⟩ := h2.int_i; exact lshift_int h (by assumption) (hQ _ _ Step.tok (.int _ _))
theorem T2.shr (h : 0 ≤ b) : T2 C k Mu (.int a) (.int b) (binaryOp .RShift) (.int (a.fdiv (2 ^ b.toNat))) := by
  refine T2.mk ?_
  intro prog A s v1 v2 Q E hA ho h1 h2 hQ; obtain ⟨t1, rfl⟩ := h1.int_i; obtain ⟨t2, rfl⟩ := h2.int_i; exact rshift_int h (hQ _ _ Step.tok (.int _ _))
theorem T2.band : T2 C k Mu (.int a) (.int b) (binaryOp .BitAnd) (.int (Builtin.bitAnd a b)) := by
  refine T2.mk ?_
  intro prog A s v1 v2 Q E hA ho h1 h2 hQ; obtain ⟨t1, rfl⟩ := h1.int_i; obtain ⟨t2, rfl⟩ := h2.int_i; exact and_int (hQ _ _ Step.tok (.int _ _))
theorem T2.bor : T2 C k Mu (.int a) (.int b) (binaryOp .BitOr) (.int (Builtin.bitOr a b)) := by
  refine T2.mk ?_
  intro prog A s v1 v2 Q E hA ho h1 h2 hQ; obtain ⟨t1, rfl⟩ := h1.int_i; obtain ⟨t2, rfl⟩ := h2.int_i; exact or_int (hQ _ _ Step.tok (.int _ _))
theorem T2.bxor : T2 C k Mu (.int a) (.int b) (binaryOp .BitXor) (.int (Builtin.bitXor a b)) := by
  refine T2.mk ?_
  intro prog A s v1 v2 Q E hA ho h1 h2 hQ; obtain ⟨t1, rfl⟩ := h1.int_i; obtain ⟨t2, rfl⟩ := h2.int_i; exact xor_int (hQ _ _ Step.tok (.int _ _))
theorem T1.neg : T1 C k Mu (.int a) (unaryOp .USub) (.int (-a)) := by
  refine T1.mk ?_
  intro prog A s v1 Q E hA ho h1 hQ; obtain ⟨t1, rfl⟩ := h1.int_i; exact P.neg_int (hQ _ _ Step.tok (.int _ _))
theorem T1.inv : T1 C k Mu (.int a) (unaryOp .Invert) (.int (Builtin.bitNot a)) := by
  refine T1.mk ?_
  intro prog A s v1 Q E hA ho h1 hQ; obtain ⟨t1, rfl⟩ := h1.int_i; exact invert_int (hQ _ _ Step.tok (.int _ _))
theorem T2.eqi : T2 C k Mu (.int a) (.int b) (compareOp .Eq) (.bool (a == b)) := by
  refine T2.mk ?_
  intro prog A s v1 v2 Q E hA ho h1 h2 hQ; obtain ⟨t1, rfl⟩ := h1.int_i; obtain ⟨t2, rfl⟩ := h2.int_i; exact P.eq_int (hQ _ _ (Step.refl _) (.bool _))
theorem T2.nei : T2 C k Mu (.int a) (.int b) (compareOp .NotEq) (.bool (a != b)) := by
  refine T2.mk ?_
  intro prog A s v1 v2 Q E hA ho h1 h2 hQ; obtain ⟨t1, rfl⟩ := h1.int_i; obtain ⟨t2, rfl⟩ := h2.int_i; exact P.ne_int (hQ _ _ (Step.refl _) (.bool _))
theorem T2.lti : T2 C k Mu (.int a) (.int b) (compareOp .Lt) (.bool (decide (a < b))) := by
  refine T2.mk ?_
  intro prog A s v1 v2 Q E hA ho h1 h2 hQ; obtain ⟨t1, rfl⟩ := h1.int_i; obtain ⟨t2, rfl⟩ := h2.int_i; exact P.lt_int (hQ _ _ (Step.refl _) (.bool _))
theorem T2.lei : T2 C k Mu (.int a) (.int b) (compareOp .LtE) (.bool (decide (a ≤ b))) := by
  refine T2.mk ?_
  intro prog A s v1 v2 Q E hA ho h1 h2 hQ; obtain ⟨t1, rfl⟩ := h1.int_i; obtain ⟨t2, rfl⟩ := h2.int_i; exact P.le_int (hQ _ _ (Step.refl _) (.bool _))
theorem T2.gti : T2 C k Mu (.int a) (.int b) (compareOp .Gt) (.bool (decide (a > b))) := by
  refine T2.mk ?_
  intro prog A s v1 v2 Q E hA ho h1 h2 hQ; obtain ⟨t1, rfl⟩ := h1.int_i; obtain ⟨t2, rfl⟩ := h2.int_i; exact P.gt_int (hQ _ _ (Step.refl _) (.bool _))
theorem T2.gei : T2 C k Mu (.int a) (.int b) (compareOp .GtE) (.bool (decide (a ≥ b))) := by
  refine T2.mk ?_
  intro prog A s v1 v2 Q E hA ho h1 h2 hQ; obtain ⟨t1, rfl⟩ := h1.int_i; obtain ⟨t2, rfl⟩ := h2.int_i; exact P.ge_int (hQ _ _ (Step.refl _) (.bool _))
theorem T2.isb {p q : Bool} : T2 C k Mu (.bool p) (.bool q) (compareOp .Is) (.bool (p == q)) := by
  refine T2.mk ?_
  intro prog A s v1 v2 Q E hA ho h1 h2 hQ; obtain rfl := h1.bool_i; obtain rfl := h2.bool_i; exact is_bool (hQ _ _ (Step.refl _) (.bool _))
theorem T2.isnb {p q : Bool} : T2 C k Mu (.bool p) (.bool q) (compareOp .IsNot) (.bool (p != q)) := by
  refine T2.mk ?_
  intro prog A s v1 v2 Q E hA ho h1 h2 hQ; obtain rfl := h1.bool_i; obtain rfl := h2.bool_i; exact isnot_bool (hQ _ _ (Step.refl _) (.bool _))
theorem T2.eqs : T2 C k Mu (.str x) (.str y) (compareOp .Eq) (.bool (x == y)) := by
  refine T2.mk ?_
  intro prog A s v1 v2 Q E hA ho h1 h2 hQ; obtain ⟨t1, rfl⟩ := h1.str_i; obtain ⟨t2, rfl⟩ := h2.str_i; exact P.eq_str (hQ _ _ (Step.refl _) (.bool _))
theorem T2.ins : T2 C k Mu (.str y) (.str x) (compareOp .In) (.bool (Txt.contains (mkS x) (mkS y))) := by
  refine T2.mk ?_
  intro prog A s v1 v2 Q E hA ho h1 h2 hQ; obtain ⟨t1, rfl⟩ := h1.str_i; obtain ⟨t2, rfl⟩ := h2.str_i; exact SB.contains (hQ _ _ (Step.refl _) (.bool _))
theorem T2.nins : T2 C k Mu (.str y) (.str x) (compareOp .NotIn) (.bool (!Txt.contains (mkS x) (mkS y))) := by
  refine T2.mk ?_
  intro prog A s v1 v2 Q E hA ho h1 h2 hQ; obtain ⟨t1, rfl⟩ := h1.str_i; obtain ⟨t2, rfl⟩ := h2.str_i; exact SB.notContains (hQ _ _ (Step.refl _) (.bool _))
theorem T2.adds (h : x.length + y.length ≤ sizeLine) : T2 C k Mu (.str x) (.str y) (binaryOp .Add) (.str (x ++ y)) := by
  refine T2.mk ?_
  intro prog A s v1 v2 Q E hA ho h1 h2 hQ; obtain ⟨t1, rfl⟩ := h1.str_i; obtain ⟨t2, rfl⟩ := h2.str_i
  refine SB.add (fun t' k' => ?_) (by rw [mkS_len, mkS_len]; exact h)
  rw [mkS_append]
  exact hQ _ _ Step.tok (.str _ _)
end
theorem foldl_arrays (L : List (Array Nat)) (acc : Array Nat) : L.foldl (· ++ ·) acc = acc ++ (L.map (·.toList)).flatten.toArray := by
  induction L generalizing acc with
  | nil => simp
  | cons a r ih => cases a; rw [List.foldl_cons, ih]; simp [Array.append_assoc]
theorem txt_mul (l : List Nat) (n : Int) : Txt.mul (mkS l) n = mkS (List.replicate n.toNat l).flatten := by
  unfold Txt.mul
  split
  · rename_i h
    have : n.toNat = 0 := by omega
    rw [this]; rfl
  · split
    · rename_i h1 h2
      simp only [Bool.or_eq_true, beq_iff_eq] at h2
      rcases h2 with rfl | h2
      · simp
      · rw [mkS_len] at h2
        have : l = [] := List.eq_nil_of_length_eq_zero h2
        subst this
        simp
    · rw [foldl_arrays]
      simp
section
variable {C : Base} {k : Nat} {Mu : Addr → Prop} {a b : Int} {x y : List Nat}
theorem T2.muls (h0 : 0 ≤ a) (h : x.length * a.toNat ≤ 2 ^ 20) (h1 : a ≤ 2 ^ 20) : T2 C k Mu (.str x) (.int a) (binaryOp .Mult) (.str (List.replicate a.toNat x).flatten) := by
  refine T2.mk ?_
  intro prog A s v1 v2 Q E hA ho h1' h2 hQ; obtain ⟨t1, rfl⟩ := h1'.str_i; obtain ⟨t2, rfl⟩ := h2.int_i
  refine SB.mul ⟨?_, fun hn _ => ?_, fun hn _ => ?_⟩ (fun t' k' => ?_)
  · simp; omega
  · rw [mkS_len]
    intro hc
    have : (x.length : Int) * a ≤ 2 ^ 20 := by
      have : (x.length : Int) * a = ((x.length * a.toNat : Nat) : Int) := by
        rw [Int.natCast_mul]; congr 1; omega
      rw [this]; exact_mod_cast h
    have h3 : (2 ^ 63 - 1) / a ≥ x.length := by
      rw [ge_iff_le, Int.le_ediv_iff_mul_le (by omega)]
      omega
    omega
  · rw [mkS_len]
    unfold Builtin.Str.tooLong
    rw [sizeLine_eq]
    simp; omega
  · rw [txt_mul]; exact hQ _ _ Step.tok (.str _ _)
theorem T1.truthyI {Q : Bool → Shared → Prop} {prog : Program} {w : World} {A : Around} {s : Shared} {v : Value} {E} {g : Vis} (h : Rep g v (.int a)) (hQ : Q (a != 0) s) : wpAny (model prog w) A (truthy v) Q E s := by
  obtain ⟨t, rfl⟩ := h.int_i; exact P.truthy_int hQ
end
noncomputable def D.truth : D → Bool
  | .none => false
  | .bool b => b
  | .int i => i != 0
  | .str l => !l.isEmpty
  | .list l => !l.isEmpty
  | .tup l => !l.isEmpty
  | .rng .. => true
  | .own l => !l.isEmpty
  | .itr _ => true
  | .obj .. => true
noncomputable def D.truthOk : D → Bool
  | .tup _ => false
  | .rng .. => false
  | .own _ => false
  | .itr _ => false
  | .obj .. => false
  | .str l => decide (l.length ≤ 2 ^ 24)
  | .list l => decide (l.length ≤ 2 ^ 24)
  | _ => true
theorem Rep.listGet {Mu : Addr → Prop} {h : Heap} {v : Value} {ds : List D} (r : Rep (vis Mu h) v (.list ds)) : ∃ a n vs, v = .ref a ∧ h.get? a = some { cls := .type "list", data := .seq (List.toArray vs) n } ∧ RepL (vis Mu h) vs ds :=
  let ⟨a, n, vs, e, x, y⟩ := r.list_i; ⟨a, n, vs, e, x.2, y⟩
theorem isList_of {h : Heap} {a : Addr} {n : Nat} {vs : List Value} (e : h.get? a = some { cls := .type "list", data := .seq vs.toArray n }) : h.IsList a vs.toArray := ⟨_, e, rfl, _, rfl⟩
theorem truthy_rep {Mu : Addr → Prop} {prog : Program} {w : World} {A : Around} {s : Shared} {v : Value} {d : D} {Q : Bool → Shared → Prop} {E} (h : Rep (vis Mu s.heap) v d) (hd : d.truthOk = true)
    (hQ : ∀ s', Step s s' → Q d.truth s') : wpAny (model prog w) A (truthy v) Q E s := by
  cases d with
  | none => obtain rfl := h.none_i; exact truthy_none (hQ _ (Step.refl _))
  | bool b => obtain rfl := h.bool_i; exact wpAny_truthy_bool (hQ _ (Step.refl _))
  | int i => obtain ⟨t, rfl⟩ := h.int_i; exact P.truthy_int (hQ _ (Step.refl _))
  | str l =>
    obtain ⟨t, rfl⟩ := h.str_i
    simp only [D.truthOk, decide_eq_true_eq] at hd
    refine P.truthy_str (by rw [mkS_len]; omega) ?_
    have : ((((mkS l).length : Nat) : Int) != 0) = (D.str l).truth := by
      rw [mkS_len]; cases l <;> simp [D.truth]; omega
    rw [this]; exact hQ _ Step.tok
  | list ds =>
    obtain ⟨a, n, vs, rfl, h1, h2⟩ := h.list_i
    simp only [D.truthOk, decide_eq_true_eq] at hd
    refine wpAny_truthy_list (isList_of h1.2) (by have := h2.length; simp; omega) ?_
    have : (!vs.toArray.isEmpty) = (D.list ds).truth := by
      have := h2.length
      cases vs <;> cases ds <;> simp_all [D.truth]
    rw [this]; exact hQ _ Step.tok
  | tup ds => cases hd
  | rng a b c => cases hd
  | own l => cases hd
  | itr l => cases hd
  | obj a o => cases hd
section
variable {C : Base} {k : Nat} {F : Fn} {ρ : Rho}
theorem TT.val (H : FOK F) {e : Expr} {d : D} {b : Bool} (h : EV C k F ρ e d) (hd : d.truthOk = true) (hb : d.truth = b)
    (he : isTrue e F.env (eval e F.env) = (do let v ← eval e F.env; standAt e.pos; holding [v] (truthy v)) := by rfl) : TT C k F ρ e b := by
  refine TT.mk ?_
  intro prog A s Q E hA hs hQ
  rw [he]
  refine wpAny_bind (h.run _ _ _ _ _ hA hs fun v s1 y1 r1 => ?_)
  refine wpAny_bind (wpAny_standAt (wpAny_holding (truthy_rep r1 hd fun s2 y2 => ?_)))
  rw [hb]; exact hQ _ (y1.trans y2)
theorem TT.not {e : Expr} {pos} {b : Bool} (h : TT C k F ρ e b) : TT C k F ρ (.UnaryOp .Not e pos) (!b) := by
  refine TT.mk ?_
  intro prog A s Q E hA hs hQ
  show wpAny _ _ (do return !(← isTrue e F.env (eval e F.env))) _ _ _
  exact wpAny_bind (h.run _ _ _ _ _ hA hs fun s1 y1 => wpAny_pure (hQ _ y1))
theorem EV.ifx (H : FOK F) {t e f : Expr} {pos} {b : Bool} {d : D} (h : TT C k F ρ t b) (h1 : b = true → EV C k F ρ e d) (h2 : b = false → EV C k F ρ f d) : EV C k F ρ (.IfExp t e f pos) d := by
  refine EV.mk ?_
  intro prog A s Q E hA hs hQ
  show wpAny _ _ (do if ← isTrue t F.env (eval t F.env) then eval e F.env else eval f F.env) _ _ _
  refine wpAny_bind (h.run _ _ _ _ _ hA hs fun s1 y1 => ?_)
  have hs1 := hs.step y1 H.nt
  cases b with
  | true => exact (h1 rfl).run _ _ _ _ _ hA hs1 fun v s2 y2 r => hQ v s2 (y1.trans y2) r
  | false => exact (h2 rfl).run _ _ _ _ _ hA hs1 fun v s2 y2 r => hQ v s2 (y1.trans y2) r
theorem EV.una (H : FOK F) {e : Expr} {op pos} {d1 d : D} (h1 : EV C k F ρ e d1) (hop : T1 C k F.Mu d1 (unaryOp op) d) : EV C k F ρ (.UnaryOp op e pos) d := by
  refine EV.mk ?_
  intro prog A s Q E hA hs hQ
  show wpAny _ _ (do let v ← eval e F.env; standAt pos; holding [v] (unaryOp op v)) _ _ _
  refine wpAny_bind (h1.run _ _ _ _ _ hA hs fun v1 s1 y1 r1 => wpAny_bind (wpAny_standAt (wpAny_holding ?_)))
  exact hop.run _ _ _ _ _ _ hA (hs.step y1 H.nt).ok r1 fun v s2 y2 r2 => hQ _ _ (y1.trans y2) r2
theorem EV.and2 (H : FOK F) {e f : Expr} {pos} {p q : Bool} (h1 : EV C k F ρ e (.bool p)) (h2 : p = true → EV C k F ρ f (.bool q)) : EV C k F ρ (.BoolOp .And [e, f] pos) (.bool (p && q)) := by
  refine EV.mk ?_
  intro prog A s Q E hA hs hQ
  show wpAny _ _ (do let v ← eval e F.env; standAt pos; let t ← holding [v] (truthy v); match BoolOp.And, t with | .And, false | .Or, true => pure v | _, _ => boolOp pos .And [eval f F.env]) _ _ _
  refine wpAny_bind (h1.run _ _ _ _ _ hA hs fun v1 s1 y1 r1 => wpAny_bind (wpAny_standAt (wpAny_bind (wpAny_holding (truthy_rep r1 rfl fun s2 y2 => ?_)))))
  cases p with
  | false => exact wpAny_pure (hQ _ _ (y1.trans y2) (r1.bool_i ▸ .bool _))
  | true => exact (h2 rfl).run _ _ _ _ _ hA ((hs.step y1 H.nt).step y2 H.nt) fun v s3 y3 r3 => hQ v s3 (y1.trans (y2.trans y3)) r3
theorem EV.tup (H : FOK F) {es : List Expr} {n pos} {ds : List D} (h : EVs C k F ρ es ds) (hn : ds.length ≤ 4096 := by decide) : EV C k F ρ (.Tuple es n pos) (.tup ds) := by
  refine EV.mk ?_
  intro prog A s Q E hA hs hQ
  refine Tuple_ (h.run _ _ _ _ _ _ hA hs fun vs s1 y1 r1 => ?_)
  have e1 := r1.length
  have ok1 := hs.ok.step y1
  refine wpAny_newTuple ?_ (by rw [sizeLine_eq]; omega)
  refine hQ _ _ (y1.trans Step.push') (.tup (n := 0) ⟨fun hm => Nat.lt_irrefl _ (ok1.lt _ hm), Heap.get?_push_size _ rfl⟩ (r1.mono (ok1.vis Step.push')))
theorem EV.lst (H : FOK F) {es : List Expr} {pos} {ds : List D} (h : EVs C k F ρ es ds) (hn : ds.length ≤ 4096 := by decide) : EV C k F ρ (.List es pos) (.list ds) := by
  refine EV.mk ?_
  intro prog A s Q E hA hs hQ
  refine List_ (h.run _ _ _ _ _ _ hA hs fun vs s1 y1 r1 => ?_)
  have e1 := r1.length
  have ok1 := hs.ok.step y1
  refine wpAny_newObj_type (hQ _ _ (y1.trans Step.push') (.list (n := 0) ⟨fun hm => Nat.lt_irrefl _ (ok1.lt _ hm), Heap.get?_push_size _ rfl⟩ (r1.mono (ok1.vis Step.push')))) ?_
  show vs.toArray.size ≤ sizeLine
  rw [sizeLine_eq]; simp; omega
end
mutual
noncomputable def D.py : D → PyData
  | .none => .none
  | .bool b => .bool b
  | .int i => .int i
  | .str l => .str (mkS l)
  | .list l => .list (D.pyL l)
  | .tup l => .tuple (D.pyL l)
  | .rng .. => .none
  | .own _ => .none
  | .itr _ => .none
  | .obj .. => .none
noncomputable def D.pyL : List D → List PyData
  | [] => []
  | d :: r => D.py d :: D.pyL r
end
mutual
noncomputable def D.plain : D → Bool
  | .rng .. => false
  | .own _ => false
  | .itr _ => false
  | .obj .. => false
  | .list l => D.plainL l
  | .tup l => D.plainL l
  | _ => true
noncomputable def D.plainL : List D → Bool
  | [] => true
  | d :: r => D.plain d && D.plainL r
end
theorem D.pyL_map (l : List D) : D.pyL l = l.map D.py := by
  induction l with
  | nil => rfl
  | cons d r ih => rw [D.pyL, ih]; rfl
theorem Rep.reads {Mu : Addr → Prop} {h : Heap} {v : Value} {d : D} (r : Rep (vis Mu h) v d) : D.plain d = true → ∃ as, Reads h v d.py as := by
  refine Rep.rec (motive_1 := fun v d _ => D.plain d = true → ∃ as, Reads h v d.py as) (motive_2 := fun vs ds _ => D.plainL ds = true → ∃ as, ReadsAll h vs (D.pyL ds) as) ?_ ?_ ?_ ?_ ?_ ?_ ?_ ?_ ?_ ?_ r
  · intro _; exact ⟨_, .none⟩
  · intro b _; exact ⟨_, .bool b⟩
  · intro i t _; exact ⟨_, .int i t⟩
  · intro l t _; exact ⟨_, .str _ t⟩
  · intro a n vs ds ha _ ih hp
    obtain ⟨as, ih⟩ := ih hp
    exact ⟨_, .list ha.2 rfl rfl (by simpa using ih)⟩
  · intro a n vs ds ha _ ih hp
    obtain ⟨as, ih⟩ := ih hp
    exact ⟨_, .tuple ha.2 rfl rfl (by simpa using ih)⟩
  · intro a lo hi st t u v ha hp; simp [D.plain] at hp
  · intro a o ha hp; simp [D.plain] at hp
  · intro _; exact ⟨_, .nil⟩
  · intro v d vs ds _ _ i1 i2 hp
    simp only [D.plainL, Bool.and_eq_true] at hp
    obtain ⟨as, i1⟩ := i1 hp.1
    obtain ⟨bs, i2⟩ := i2 hp.2
    exact ⟨_, .cons i1 i2⟩
structure Cmp (d : D) : Prop where
  plain : D.plain d = true
  lay : d.py.canLay0 = true
  depth : d.py.depth ≤ 60
section
variable {C : Base} {k : Nat} {Mu : Addr → Prop}
theorem T2.eqd {d1 d2 : D} (h1 : Cmp d1) (h2 : Cmp d2) : T2 C k Mu d1 d2 (compareOp .Eq) (.bool (PyData.eqv d1.py d2.py)) := by
  refine T2.mk ?_
  intro prog A s v1 v2 Q E hA ho r1 r2 hQ
  obtain ⟨as, q1⟩ := r1.reads h1.plain
  obtain ⟨bs, q2⟩ := r2.reads h2.plain
  have hu := hA.units
  have := h1.depth
  exact SeqAt.compareEq_reads q1 q2 h1.lay h2.lay (by omega) (hQ _ _ (Step.refl _) (.bool _))
theorem T2.ned {d1 d2 : D} (h1 : Cmp d1) (h2 : Cmp d2) : T2 C k Mu d1 d2 (compareOp .NotEq) (.bool (!PyData.eqv d1.py d2.py)) := by
  refine T2.mk ?_
  intro prog A s v1 v2 Q E hA ho r1 r2 hQ
  obtain ⟨as, q1⟩ := r1.reads h1.plain
  obtain ⟨bs, q2⟩ := r2.reads h2.plain
  have hu := hA.units
  have := h1.depth
  exact SeqAt.compareNe_reads q1 q2 h1.lay h2.lay (by omega) (hQ _ _ (Step.refl _) (.bool _))
theorem T2.inl {d1 : D} {ds : List D} (h1 : Cmp d1) (h2 : Cmp (.list ds)) : T2 C k Mu d1 (.list ds) (compareOp .In) (.bool ((D.pyL ds).any fun y => y.eqv d1.py)) := by
  refine T2.mk ?_
  intro prog A s v1 v2 Q E hA ho r1 r2 hQ
  obtain ⟨as, q1⟩ := r1.reads h1.plain
  obtain ⟨bs, q2⟩ := r2.reads h2.plain
  have hu := hA.units
  have := h1.depth
  exact SeqAt.in_list_reads q2 q1 (by simpa [D.py, PyData.canLay0] using h2.lay) h1.lay (by omega) (hQ _ _ (Step.refl _) (.bool _))
theorem fresh_vis {s s' : Shared} {o : Obj} (ho : OK C Mu s) (hf : o.isFreed = false := by rfl) (e : s'.heap = s.heap.push o := by rfl) : vis Mu s'.heap s.heap.objs.size o := by
  rw [e]; exact ⟨fun hm => Nat.lt_irrefl _ (ho.lt _ hm), Heap.get?_push_size _ hf⟩
theorem T2.addl {xs ys : List D} (h : xs.length + ys.length ≤ 2 ^ 24) : T2 C k Mu (.list xs) (.list ys) (binaryOp .Add) (.list (xs ++ ys)) := by
  refine T2.mk ?_
  intro prog A s v1 v2 Q E hA ho r1 r2 hQ
  obtain ⟨l1, n1, us, rfl, a1, b1⟩ := r1.list_i
  obtain ⟨l2, n2, ws, rfl, a2, b2⟩ := r2.list_i
  refine P.add_list a1.2 a2.2 (hQ _ _ Step.push' ?_) (by have := b1.length; have := b2.length; rw [sizeLine_eq]; simp; omega)
  rw [List.append_toArray]
  exact .list (n := 0) (fresh_vis ho) ((b1.append b2).mono (ho.vis Step.push'))
theorem RepL.replicate {g : Vis} {vs : List Value} {ds : List D} (h : RepL g vs ds) : ∀ n, RepL g (List.replicate n vs).flatten (List.replicate n ds).flatten
  | 0 => .nil
  | n + 1 => by
    rw [List.replicate_succ, List.replicate_succ, List.flatten_cons, List.flatten_cons]
    exact h.append (RepL.replicate h n)
theorem foldl_reps (vs : List Value) (n : Nat) : (List.replicate n vs.toArray).foldl (· ++ ·) #[] = (List.replicate n vs).flatten.toArray := by
  have : ∀ (acc : Array Value), (List.replicate n vs.toArray).foldl (· ++ ·) acc = acc ++ (List.replicate n vs).flatten.toArray := by
    induction n with
    | zero => intro acc; simp
    | succ n ih => intro acc; rw [List.replicate_succ, List.foldl_cons, ih]; simp [List.replicate_succ]
  simpa using this #[]
end
section
variable {prog : Program} {w : World} {A : Around} {E : Value → Shared → Prop} {s : Shared}
theorem mul_list_at {l : Addr} {items : Array Value} {n : Nat} {x : Int} {u : Tok} {Q : Value → Shared → Prop} (hl : s.heap.get? l = some { cls := .type "list", data := .seq items n }) (hlo : -2 ^ 63 ≤ x) (hhi : x < 2 ^ 63) (hsz : items.size * x.toNat ≤ 2 ^ 24)
    (h : Q (.ref s.heap.objs.size) { s with heap := s.heap.push { cls := .type "list", data := .seq ((List.replicate (if items.isEmpty then 0 else x.toNat) items).foldl (· ++ ·) #[]) } }) :
    wpAny (model prog w) A (binaryOp .Mult (.ref l) (.int x u)) Q E s := by
  exact wpAny_binaryOp_repeat_ref (T := "list") (U := "int") (by decide) ⟨_, hl, rfl⟩ (fun s' => typeIs_int s' x u) noFill_list_mul F.fills_int_mul F.slot_int_rmul repeat_list F.slot_int_index.lookup
    (call_meets F.slot_int_rmul (typeIs_int s x u) F.entry_int_rmul (F.args_int_rmul_2 _ _) (int___rmul___int_list x u l items n)
      ⟨hl, rfl, ⟨_, hl, rfl⟩, call_meets F.slot_list_mul ⟨_, hl, rfl⟩ F.entry_list_mul (F.args_list_mul_2 _ _)
        (AutoListH.list___mul___list_int_3 l items n x u (by simp [Builtin.List.listFitsIndex]; omega) (by omega) (by simp [Builtin.List.listTooLong, sizeLine]; omega))
        ⟨hl, h⟩⟩)
end
section
variable {C : Base} {k : Nat} {Mu : Addr → Prop}
theorem T2.mull {xs : List D} {n : Int} (h0 : 0 ≤ n) (h1 : n ≤ 2 ^ 24) (h : xs.length * n.toNat ≤ 2 ^ 24) : T2 C k Mu (.list xs) (.int n) (binaryOp .Mult) (.list (List.replicate n.toNat xs).flatten) := by
  refine T2.mk ?_
  intro prog A s v1 v2 Q E hA ho r1 r2 hQ
  obtain ⟨t2, rfl⟩ := r2.int_i
  obtain ⟨a, m, vs, rfl, a1, b1⟩ := r1.list_i
  have hl := b1.length
  refine mul_list_at a1.2 (by omega) (by omega) (by simp; rw [hl]; exact h) (hQ _ _ Step.push' ?_)
  have e : (List.replicate (if vs.toArray.isEmpty = true then 0 else n.toNat) vs.toArray).foldl (· ++ ·) #[] = (List.replicate n.toNat vs).flatten.toArray := by
    rw [← foldl_reps]
    cases vs with
    | nil => simp [foldl_reps]
    | cons v r => simp
  rw [e]
  exact .list (n := 0) (fresh_vis ho) ((b1.replicate _).mono (ho.vis Step.push'))
theorem T2.idxl {ds : List D} {i : Int} {d : D} (h0 : 0 ≤ i) (h1 : i < 2 ^ 63) (h : ds[i.toNat]? = some d) : T2 C k Mu (.list ds) (.int i) getItem d := by
  refine T2.mk ?_
  intro prog A s v1 v2 Q E hA ho r1 r2 hQ
  obtain ⟨t2, rfl⟩ := r2.int_i
  obtain ⟨a, m, vs, rfl, a1, b1⟩ := r1.list_i
  obtain ⟨v, hv, r⟩ := b1.get h
  exact wpAny_getItem_list (isList_of a1.2) h0 h1 (by rw [List.getElem?_toArray]; exact hv) (hQ _ _ (Step.refl _) r)
theorem T2.idxlN {ds : List D} {i : Int} {d : D} (h0 : i < 0) (h1 : -2 ^ 63 ≤ i) (h2 : -(ds.length : Int) ≤ i) (h : ds[(i + ds.length).toNat]? = some d) : T2 C k Mu (.list ds) (.int i) getItem d := by
  refine T2.mk ?_
  intro prog A s v1 v2 Q E hA ho r1 r2 hQ
  obtain ⟨t2, rfl⟩ := r2.int_i
  obtain ⟨a, m, vs, rfl, a1, b1⟩ := r1.list_i
  obtain ⟨v, hv, r⟩ := b1.get h
  have hl : vs.toArray.size = ds.length := by rw [List.size_toArray, b1.length]
  exact wpAny_getItem_list_neg (isList_of a1.2) h0 (by rw [hl]; exact h2) h1 (by rw [hl, List.getElem?_toArray]; exact hv) (hQ _ _ (Step.refl _) r)
theorem seqIndex_pos {i : Int} {n : Nat} (h0 : 0 ≤ i) (h : i.toNat < n) : seqIndex? i n = some i.toNat := by
  unfold seqIndex?
  have e : ¬ i < 0 := by omega
  simp only [e, if_false]
  rw [if_pos (by simp; omega)]
theorem T2.idxt {ds : List D} {i : Int} {d : D} (h0 : 0 ≤ i) (h1 : i < 2 ^ 63) (h : ds[i.toNat]? = some d) : T2 C k Mu (.tup ds) (.int i) getItem d := by
  refine T2.mk ?_
  intro prog A s v1 v2 Q E hA ho r1 r2 hQ
  obtain ⟨t2, rfl⟩ := r2.int_i
  obtain ⟨a, m, vs, rfl, a1, b1⟩ := r1.tup_i
  obtain ⟨v, hv, r⟩ := b1.get h
  have hl : vs.toArray.size = ds.length := by rw [List.size_toArray, b1.length]
  exact P.getItem_tuple a1.2 (Int.le_trans (by decide) h0) h1 (k := i.toNat) (by rw [hl]; exact seqIndex_pos h0 (List.getElem?_eq_some_iff.mp h).1) (by rw [List.getElem?_toArray]; exact hv) (hQ _ _ (Step.refl _) r)
theorem T2.idxs {l : List Nat} {i : Int} {j c : Nat} (h0 : -2 ^ 63 ≤ i) (h1 : i < 2 ^ 63) (hj : seqIndex? i l.length = some j) (h : l[j]? = some c) : T2 C k Mu (.str l) (.int i) getItem (.str [c]) := by
  refine T2.mk ?_
  intro prog A s v1 v2 Q E hA ho r1 r2 hQ
  obtain ⟨t2, rfl⟩ := r2.int_i
  obtain ⟨t1, rfl⟩ := r1.str_i
  refine P.getItem_str (c := c) (by rw [decide_eq_false (by omega), decide_eq_false (by omega)]; rfl) ?_ (hQ _ _ Step.tok (.str [c] _))
  rw [mkS_len, hj]
  show (List.toArray l)[j]? = some c
  rw [List.getElem?_toArray]; exact h
end
noncomputable def D.itemT : D → Option String
  | .list _ => some "list"
  | .tup _ => some "tuple"
  | .str _ => some "str"
  | _ => Option.none
theorem itemT_lookup {d : D} {T : String} (h : d.itemT = some T) : ∃ id, typeLookup (.type T) "__getitem__" = pure (some (.builtin id)) := by
  cases d <;> simp only [D.itemT, Option.some.injEq] at h <;> first | (cases h; done) | (subst h)
  · exact ⟨_, F.slot_str_getitem.lookup⟩
  · exact ⟨_, F.slot_list_getitem.lookup⟩
  · exact ⟨_, F.slot_tuple_getitem.lookup⟩
theorem itemT_is {Mu : Addr → Prop} {s : Shared} {v : Value} {d : D} {T : String} (r : Rep (vis Mu s.heap) v d) (h : d.itemT = some T) : s.TypeIs v T := by
  cases d with
  | list ds => cases h; obtain ⟨a, m, vs, rfl, a1, _⟩ := r.list_i; exact ⟨_, a1.2, rfl⟩
  | tup ds => cases h; obtain ⟨a, m, vs, rfl, a1, _⟩ := r.tup_i; exact ⟨_, a1.2, rfl⟩
  | str l => cases h; obtain ⟨t, rfl⟩ := r.str_i; exact typeIs_str _ _ _
  | _ => cases h
section
variable {C : Base} {k : Nat} {F : Fn} {ρ : Rho}
theorem EV.item (H : FOK F) {e i : Expr} {pos} {d1 d2 d : D} {T : String} (h1 : EV C k F ρ e d1) (h2 : EV C k F ρ i d2) (hop : T2 C k F.Mu d1 d2 getItem d) (ht : d1.itemT = some T)
    (hs : ∀ o v, subscripted i false o v = operate [o, v] (getItem o v) := by intro _ _; rfl) : EV C k F ρ (.Subscript e i pos) d := by
  refine EV.mk ?_
  intro prog A s Q E hA hs0 hQ
  obtain ⟨id, hl⟩ := itemT_lookup ht
  refine Subscript_ (h1.run _ _ _ _ _ hA hs0 fun v1 s1 y1 r1 => ?_)
  have hs1 := hs0.step y1 H.nt
  refine h2.run _ _ _ _ _ hA hs1 fun v2 s2 y2 r2 => ?_
  have hs2 := hs1.step y2 H.nt
  have r1' := r1.mono (hs1.ok.vis y2)
  exact tail_any (itemT_is r1' ht) hl (hop.run _ _ _ _ _ _ _ hA hs2.ok r1' r2 fun v s3 y3 r3 => hQ v s3 (y1.trans (y2.trans y3)) r3) (hs _ _)
noncomputable def EP (C : Base) (k : Nat) (F : Fn) (ρ : Rho) : Option Expr → Option Int → Prop
  | none, none => True
  | some e, some i => EV C k F ρ e (.int i)
  | _, _ => False
theorem EP.run {e : Option Expr} {i : Option Int} (h : EP C k F ρ e i) {prog : Program} {A : Around} {s : Shared} {Q : Value → Shared → Prop} {E} (hA : Rm k A) (hs : St C F ρ s)
    (hQ : ∀ v p s', Step s s' → v = partValue p → p.map (·.1) = i → Q v s') : wpAny (model prog C.w) A (valueOrNone (evalOpt e F.env)) Q E s := by
  cases e with
  | none =>
    cases i with
    | none => exact wpAny_pure (hQ _ none _ (Step.refl _) rfl rfl)
    | some i => exact h.elim
  | some e =>
    cases i with
    | none => exact h.elim
    | some i => exact EV.run (show EV C k F ρ e (.int i) from h) _ _ _ _ _ hA hs fun v s' y r => by obtain ⟨t, rfl⟩ := r.int_i; exact hQ _ (some (i, t)) _ y rfl rfl
theorem isPart_of (p : Option (Int × Tok)) : IsPart (partValue p) (p.map (·.1)) := by
  cases p with
  | none => exact .none
  | some q => exact .int _ _
noncomputable def picks {α : Type} (l : List α) (lo hi st : Option Int) : List α :=
  (sliceRange (sliceBounds lo hi st l.length).1 (sliceBounds lo hi st l.length).2.1 (sliceBounds lo hi st l.length).2.2).filterMap (l[·]?)
theorem RepL.picks {g : Vis} {vs : List Value} {ds : List D} (h : RepL g vs ds) (lo hi st : Option Int) : RepL g (picks vs lo hi st) (picks ds lo hi st) := by
  unfold Mine.picks
  rw [h.length]
  generalize sliceRange _ _ _ = js
  induction js with
  | nil => exact .nil
  | cons j r ih =>
    cases hj : ds[j]? with
    | none =>
      have : vs[j]? = none := by rw [List.getElem?_eq_none_iff] at hj ⊢; rw [h.length]; exact hj
      rw [List.filterMap_cons, List.filterMap_cons, this, hj]; exact ih
    | some d =>
      obtain ⟨v, hv, r'⟩ := h.get hj
      rw [List.filterMap_cons, List.filterMap_cons, hv, hj]; exact .cons r' ih
theorem slicePick_eq (vs : List Value) (lo hi st : Option Int) : slicePick vs.toArray lo hi st = (picks vs lo hi st).toArray := by
  unfold slicePick picks; simp
theorem EV.slice_parts (H : FOK F) {lo hi st : Option Expr} {l u t : Option Int} {p : Pos} (hl : EP C k F ρ lo l) (hu : EP C k F ρ hi u) (ht : EP C k F ρ st t)
    {prog : Program} {A : Around} {s : Shared} {Q : Value → Shared → Prop} {E} (hA : Rm k A) (hs : St C F ρ s)
    (hQ : ∀ a pl pu pt s', Step s s' → pl.map (·.1) = l → pu.map (·.1) = u → pt.map (·.1) = t → s'.heap.IsSlice a pl pu pt → Q (.ref a) s') :
    wpAny (model prog C.w) A (eval (.Slice lo hi st p) F.env) Q E s := by
  show wpAny _ _ (do let l ← valueOrNone (evalOpt lo F.env); let u ← holding [l] (valueOrNone (evalOpt hi F.env)); let s ← holding [l, u] (valueOrNone (evalOpt st F.env)); newFields "slice" [l, u, s]) _ _ _
  refine wpAny_bind (hl.run hA hs fun v1 p1 s1 y1 e1 m1 => wpAny_bind (wpAny_holding ?_))
  have hs1 := hs.step y1 H.nt
  refine hu.run hA hs1 fun v2 p2 s2 y2 e2 m2 => wpAny_bind (wpAny_holding ?_)
  have hs2 := hs1.step y2 H.nt
  refine ht.run hA hs2 fun v3 p3 s3 y3 e3 m3 => ?_
  subst e1 e2 e3
  refine wpAny_newObj_type (hQ _ p1 p2 p3 _ (y1.trans (y2.trans (y3.trans Step.push'))) m1 m2 m3 ⟨_, Heap.get?_push_size _ rfl, rfl, rfl⟩) (by size_fits)
theorem EV.slicel (H : FOK F) {e : Expr} {lo hi st : Option Expr} {p pos : Pos} {ds : List D} {l u t : Option Int} (h1 : EV C k F ρ e (.list ds)) (hl : EP C k F ρ lo l) (hu : EP C k F ρ hi u) (ht : EP C k F ρ st t)
    (h0 : t ≠ some 0) (hn : ds.length ≤ 2 ^ 24) (hs : ∀ o i, ∃ ops, subscripted (.Slice lo hi st p) false o i = operate ops (getItem o i)) : EV C k F ρ (.Subscript e (.Slice lo hi st p) pos) (.list (picks ds l u t)) := by
  refine EV.mk ?_
  intro prog A s Q E hA hs0 hQ
  refine Subscript_ (h1.run _ _ _ _ _ hA hs0 fun v1 s1 y1 r1 => ?_)
  have hs1 := hs0.step y1 H.nt
  refine EV.slice_parts H hl hu ht hA hs1 fun a pl pu pt s2 y2 m1 m2 m3 hsl => ?_
  have hs2 := hs1.step y2 H.nt
  have r2 := r1.mono (hs1.ok.vis y2)
  obtain ⟨ops, hop⟩ := hs v1 (.ref a)
  obtain ⟨a', m', vs, rfl, a1, b1⟩ := r2.list_i
  · subst m1 m2 m3
    refine tail_any ⟨_, a1.2, rfl⟩ PySem.F.slot_list_getitem.lookup (wpAny_getItem_list_slice (isList_of a1.2) hsl (isPart_of _) (isPart_of _) (isPart_of _) h0 ?_ (by have := b1.length; rw [sizeLine_eq]; simp; omega)) hop
    refine hQ _ _ (y1.trans (y2.trans Step.push')) ?_
    rw [slicePick_eq]
    exact .list (n := 0) (fresh_vis hs2.ok) ((b1.picks _ _ _).mono (hs2.ok.vis Step.push'))
theorem picks_eq {α : Type} (x : List α) (l u : Option Int) : picks x l u none = (x.drop (kms_lo l x.length)).take (kms_hi u x.length - kms_lo l x.length) := by
  unfold picks
  rw [kms_bounds, sliceRange_one]
  generalize kms_lo l x.length = a
  have hb : kms_hi u x.length ≤ x.length := by
    unfold kms_hi; split
    · exact Nat.le_refl _
    · split <;> omega
  generalize kms_hi u x.length = b at hb
  induction hn : b - a generalizing a with
  | zero => simp
  | succ n ih =>
    have ha : a < x.length := by omega
    rw [List.range_succ_eq_map, List.map_cons, List.filterMap_cons, Nat.add_zero, List.getElem?_eq_getElem ha]
    rw [List.drop_eq_getElem_cons ha, List.take_succ_cons]
    simp only
    congr 1
    rw [List.map_map]
    have := ih (a + 1) (by omega)
    rw [← this]
    congr 1
    apply List.map_congr_left
    intro j _
    simp [Nat.add_comm, Nat.add_left_comm]
theorem sliceRange_len {n : Nat} (l u : Option Int) : (sliceRange (sliceBounds l u none n).1 (sliceBounds l u none n).2.1 (sliceBounds l u none n).2.2).length = kms_hi u n - kms_lo l n := by
  rw [kms_bounds, sliceRange_one]; simp
theorem kms_hi_le (u : Option Int) (n : Nat) : kms_hi u n ≤ n := by
  unfold kms_hi; split
  · exact Nat.le_refl _
  · split <;> omega
theorem picks_len {α : Type} (x : List α) (l u : Option Int) : (picks x l u none).length ≤ x.length := by
  rw [picks_eq]; simp; omega
theorem EV.slices (H : FOK F) {e : Expr} {lo hi : Option Expr} {p pos : Pos} {x : List Nat} {l u : Option Int} (h1 : EV C k F ρ e (.str x)) (hl : EP C k F ρ lo l) (hu : EP C k F ρ hi u)
    (hn : x.length ≤ 2 ^ 24) : EV C k F ρ (.Subscript e (.Slice lo hi none p) pos) (.str (picks x l u none)) := by
  refine EV.mk ?_
  intro prog A s Q E hA hs0 hQ
  refine Subscript_ (h1.run _ _ _ _ _ hA hs0 fun v1 s1 y1 r1 => ?_)
  have hs1 := hs0.step y1 H.nt
  refine EV.slice_parts (st := none) (t := none) H hl hu trivial hA hs1 fun a pl pu pt s2 y2 m1 m2 m3 hsl => ?_
  have hs2 := hs1.step y2 H.nt
  have r2 := r1.mono (hs1.ok.vis y2)
  have hpt : pt = none := by cases pt <;> simp_all
  subst hpt
  obtain ⟨t', rfl⟩ := r2.str_i
  · refine tail_any (typeIs_str _ _ _) PySem.F.slot_str_getitem.lookup (wpAny_getItem_str_slice hsl rfl ?_) (ops := [.ref a, .str (mkS x) t']) rfl
    have hz : slicePicked (mkS x) pl pu none = sliceRange (sliceBounds l u none x.length).1 (sliceBounds l u none x.length).2.1 (sliceBounds l u none x.length).2.2 := by
      subst m1 m2
      unfold slicePicked
      rw [mkS_len]; rfl
    have hp : (Str.mk ((sliceRange (sliceBounds l u none x.length).1 (sliceBounds l u none x.length).2.1 (sliceBounds l u none x.length).2.2).filterMap ((mkS x).cps[·]?)).toArray) = mkS (picks x l u none) := by
      unfold picks; simp [mkS]
    unfold sliceMade
    rw [hz]
    split
    · rename_i hc
      refine hQ _ _ (y1.trans y2) ?_
      have : picks x l u none = x := by
        simp only [mkS_len, Bool.and_eq_true, beq_iff_eq, sliceRange_len] at hc
        have h3 := kms_hi_le u x.length
        rw [picks_eq]
        rcases Nat.eq_zero_or_pos x.length with h0 | h0
        · have : x = [] := List.eq_nil_of_length_eq_zero h0
          subst this; simp
        · have e1 : kms_lo l x.length = 0 := by omega
          have e2 : kms_hi u x.length = x.length := by omega
          rw [e1, e2]; simp
      rw [this]; exact .str _ _
    · rw [hp]
      have hlen := picks_len x l u
      exact ⟨by rw [mkS_len, sizeLine_eq]; omega, hQ _ _ (y1.trans (y2.trans Step.tok)) (.str _ _)⟩
end
section
variable {C : Base} {k : Nat} {F : Fn} {ρ : Rho}
theorem EV.callB (H : FOK F) {f : Str} {p pos : Pos} {e : Expr} {es : List Expr} {id : String} {ds : List D} {d : D} (hx : F.env.kindOf f = some .globalImplicit) (hm : (f, Value.builtin id) ∈ biList)
    (ha : EVs C k F ρ (e :: es) ds) (hf : TL C k F.Mu ds (fun vs => call (.builtin id) vs) d)
    (he : starEach (e :: es) F.env = (false, eval e F.env) :: starEach es F.env := by rfl) (hp : (backTo pos (starEach es F.env)).any (·.1) = false := by rfl) (hd : (f == ("__debug__" : Str)) = false := by decide +kernel) :
    EV C k F ρ (.Call (.Name f p) (e :: es) [] pos) d := by
  refine EV.mk ?_
  intro prog A s Q E hA hs hQ
  refine wpAny_Call_NameR (Calls.Name_function_global H.kind hx (Calls.loadGlobal_builtin (hs.mg H) (C.bi _ hm).1 (hs.mb H) (C.bi _ hm).2 ?_) hd)
  refine callWith_builtin1 (ha.run _ _ _ _ _ _ hA hs fun vs s1 y1 r1 => ?_) he hp
  exact hf.run _ _ _ _ _ _ hA (hs.step y1 H.nt).ok r1 fun v s2 y2 r2 => hQ _ _ (y1.trans y2) r2
theorem EV.callT (H : FOK F) {f : Str} {p pos : Pos} {e : Expr} {es : List Expr} {T : String} {ds : List D} {d : D} (hx : F.env.kindOf f = some .globalImplicit) (hm : (f, Value.type T) ∈ biList)
    (ha : EVs C k F ρ (e :: es) ds) (hf : TL C k F.Mu ds (fun vs => call (.type T) vs) d)
    (he : starEach (e :: es) F.env = (false, eval e F.env) :: starEach es F.env := by rfl) (hp : (backTo pos (starEach es F.env)).any (·.1) = false := by rfl) (hd : (f == ("__debug__" : Str)) = false := by decide +kernel) :
    EV C k F ρ (.Call (.Name f p) (e :: es) [] pos) d := by
  refine EV.mk ?_
  intro prog A s Q E hA hs hQ
  refine wpAny_Call_NameR (Calls.Name_function_global H.kind hx (Calls.loadGlobal_builtin (hs.mg H) (C.bi _ hm).1 (hs.mb H) (C.bi _ hm).2 ?_) hd)
  refine PyProof.Rows.callWith_type1 (ha.run _ _ _ _ _ _ hA hs fun vs s1 y1 r1 => ?_) he hp
  exact hf.run _ _ _ _ _ _ hA (hs.step y1 H.nt).ok r1 fun v s2 y2 r2 => hQ _ _ (y1.trans y2) r2
theorem EV.callF (H : FOK F) {f : Str} {p pos : Pos} {e : Expr} {es : List Expr} {a : Addr} {fd : FuncData} {ds : List D} {d : D} (hx : F.env.kindOf f = some .globalImplicit) (hm : C.mg f = some (.ref a)) (hfd : C.FD a = some fd)
    (ha : EVs C k F ρ (e :: es) ds) (hf : TL C k F.Mu ds (fun vs => call (.ref a) vs) d)
    (he : starEach (e :: es) F.env = (false, eval e F.env) :: starEach es F.env := by rfl) (hd : (f == ("__debug__" : Str)) = false := by decide +kernel) :
    EV C k F ρ (.Call (.Name f p) (e :: es) [] pos) d := by
  refine EV.mk ?_
  intro prog A s Q E hA hs hQ
  obtain ⟨o, ho, hdat, _⟩ := C.fn _ _ hfd
  refine wpAny_Call_NameR (Calls.Name_function_global H.kind hx (Calls.loadGlobal_global (hs.mg H) hm ?_) hd)
  refine callWith_def hdat (ha.run _ _ _ _ _ _ hA hs fun vs s1 y1 r1 => ?_) he
  have hs1 := hs.step y1 H.nt
  exact ⟨hs1.ok.keep _ _ ho, hf.run _ _ _ _ _ _ hA hs1.ok r1 fun v s2 y2 r2 => hQ _ _ (y1.trans y2) r2⟩
noncomputable def GetM (d : D) (name : Str) (id : String) : Prop := ∀ (prog : Program) (w : World) (A : Around) (g : Vis) (v : Value) (pl : Sem Bool) (s : Shared) (Q : Value × List Value → Shared → Prop) (E : Value → Shared → Prop), Rep g v d → Q (.builtin id, [v]) s → wpAny (model prog w) A (getMethod v name pl) Q E s
theorem EV.meth0 (H : FOK F) {o : Expr} {name : Str} {apos pos : Pos} {pl : Sem Bool} {id : String} {d0 d : D} (h0 : EV C k F ρ o d0) (hg : GetM d0 name id)
    (hf : TL C k F.Mu [d0] (fun vs => call (.builtin id) vs) d)
    (he : eval (.Call (.Attribute o name apos) [] [] pos) F.env = (do
      let ov ← eval o F.env
      standAt apos.atName
      let (f, first) ← holding [ov] (getMethod ov name pl)
      callWith pos f first (backTo pos (starEach [] F.env)) []) := by rfl) :
    EV C k F ρ (.Call (.Attribute o name apos) [] [] pos) d := by
  refine EV.mk ?_
  intro prog A s Q E hA hs hQ
  refine MethodCall_ (pl := pl) (h0.run _ _ _ _ _ hA hs fun v1 s1 y1 r1 => hg _ _ _ _ _ _ _ _ _ r1 ?_) he
  have hs1 := hs.step y1 H.nt
  exact callWith_method0 (hf.run _ _ _ _ _ _ hA hs1.ok (.cons r1 .nil) fun v s3 y3 r3 => hQ _ _ (y1.trans y3) r3)
theorem EV.meth (H : FOK F) {o e : Expr} {name : Str} {apos pos : Pos} {es : List Expr} {pl : Sem Bool} {id : String} {d0 d : D} {ds : List D} (h0 : EV C k F ρ o d0) (hg : GetM d0 name id) (ha : EVs C k F ρ (e :: es) ds)
    (hf : TL C k F.Mu (d0 :: ds) (fun vs => call (.builtin id) vs) d)
    (he : eval (.Call (.Attribute o name apos) (e :: es) [] pos) F.env = (do
      let ov ← eval o F.env
      standAt apos.atName
      let (f, first) ← holding [ov] (getMethod ov name pl)
      callWith pos f first (backTo pos (starEach (e :: es) F.env)) []) := by rfl)
    (he2 : starEach (e :: es) F.env = (false, eval e F.env) :: starEach es F.env := by rfl) (hp : (backTo pos (starEach es F.env)).any (·.1) = false := by rfl) :
    EV C k F ρ (.Call (.Attribute o name apos) (e :: es) [] pos) d := by
  refine EV.mk ?_
  intro prog A s Q E hA hs hQ
  refine MethodCall_ (pl := pl) (h0.run _ _ _ _ _ hA hs fun v1 s1 y1 r1 => hg _ _ _ _ _ _ _ _ _ r1 ?_) he
  have hs1 := hs.step y1 H.nt
  refine callWith_method1 ?_ he2 hp
  exact ha.run _ _ _ _ _ _ hA hs1 fun vs s2 y2 r2 => hf.run _ _ _ _ _ _ hA (hs1.step y2 H.nt).ok (.cons (r1.mono (hs1.ok.vis y2)) r2) fun v s3 y3 r3 => hQ _ _ (y1.trans (y2.trans y3)) r3
theorem GetM.count {l : List Nat} : GetM (.str l) "count" "str.count" := fun _ _ _ _ _ _ _ _ _ r h => by obtain ⟨t, rfl⟩ := r.str_i; exact GM.count h
theorem GetM.find {l : List Nat} : GetM (.str l) "find" "str.find" := fun _ _ _ _ _ _ _ _ _ r h => by obtain ⟨t, rfl⟩ := r.str_i; exact GM.find h
theorem GetM.startswith {l : List Nat} : GetM (.str l) "startswith" "str.startswith" := fun _ _ _ _ _ _ _ _ _ r h => by obtain ⟨t, rfl⟩ := r.str_i; exact GM.startswith h
theorem GetM.endswith {l : List Nat} : GetM (.str l) "endswith" "str.endswith" := fun _ _ _ _ _ _ _ _ _ r h => by obtain ⟨t, rfl⟩ := r.str_i; exact GM.endswith h
theorem GetM.split {l : List Nat} : GetM (.str l) "split" "str.split" := fun _ _ _ _ _ _ _ _ _ r h => by obtain ⟨t, rfl⟩ := r.str_i; exact GM.split h
theorem GetM.join {l : List Nat} : GetM (.str l) "join" "str.join" := fun _ _ _ _ _ _ _ _ _ r h => by obtain ⟨t, rfl⟩ := r.str_i; exact GM.join h
theorem GetM.bitlen {i : Int} : GetM (.int i) "bit_length" "int.bit_length" := fun _ _ _ _ _ _ _ _ _ r h => by obtain ⟨t, rfl⟩ := r.int_i; exact getMethod_int_bit_length h
end
theorem RepL.one {g : Vis} {vs : List Value} {d : D} (h : RepL g vs [d]) : ∃ v, vs = [v] ∧ Rep g v d := by
  obtain ⟨v, ws, rfl, a, t⟩ := h.cons_i
  rw [t.nil_i]; exact ⟨v, rfl, a⟩
theorem RepL.two {g : Vis} {vs : List Value} {d e : D} (h : RepL g vs [d, e]) : ∃ v w, vs = [v, w] ∧ Rep g v d ∧ Rep g w e := by
  obtain ⟨v, ws, rfl, a, t⟩ := h.cons_i
  obtain ⟨w, rfl, b⟩ := t.one
  exact ⟨v, w, rfl, a, b⟩
theorem RepL.three {g : Vis} {vs : List Value} {d e f : D} (h : RepL g vs [d, e, f]) : ∃ v w u, vs = [v, w, u] ∧ Rep g v d ∧ Rep g w e ∧ Rep g u f := by
  obtain ⟨v, ws, rfl, a, t⟩ := h.cons_i
  obtain ⟨w, u, rfl, b, c⟩ := t.two
  exact ⟨v, w, u, rfl, a, b, c⟩
theorem RepL.ss {g : Vis} {vs : List Value} {x y : List Nat} (h : RepL g vs [.str x, .str y]) : ∃ t u, vs = [.str (mkS x) t, .str (mkS y) u] := by
  obtain ⟨v, w, rfl, a, b⟩ := h.two
  obtain ⟨t, rfl⟩ := a.str_i
  obtain ⟨u, rfl⟩ := b.str_i
  exact ⟨t, u, rfl⟩
theorem RepL.ii {g : Vis} {vs : List Value} {x y : Int} (h : RepL g vs [.int x, .int y]) : ∃ t u, vs = [.int x t, .int y u] := by
  obtain ⟨v, w, rfl, a, b⟩ := h.two
  obtain ⟨t, rfl⟩ := a.int_i
  obtain ⟨u, rfl⟩ := b.int_i
  exact ⟨t, u, rfl⟩
noncomputable def findIn (x y : List Nat) (lo hi : Nat) : Int := match Builtin.Str.occurrences (mkS x) (mkS y) lo hi 1 with | i :: _ => (i : Int) | [] => -1
theorem gives_str_find4 (x y : Str) (i j : Int) (t u v z : Tok) : Gives (Builtin.«str.find» ⟨[.str x t, .str y u, .int i v, .int j z], []⟩)
    (.int (match Builtin.Str.occurrences x y (fromIndex x.length i) (min (fromIndex x.length j) x.length) 1 with | k :: _ => (k : Int) | [] => -1)) := by
  show Gives (match Builtin.Str.occurrences x y (fromIndex x.length i) (min (fromIndex x.length j) x.length) 1 with | k :: _ => retInt k | [] => (do rule "str.find.not-found"; retInt (-1))) _
  cases Builtin.Str.occurrences x y (fromIndex x.length i) (min (fromIndex x.length j) x.length) 1 with
  | nil => exact .rule (.of_eq rfl)
  | cons k _ => exact .of_eq rfl
section
variable {C : Base} {k : Nat} {Mu : Addr → Prop}
theorem TL.lens {l : List Nat} (h : l.length < 2 ^ 60) : TL C k Mu [.str l] (fun vs => call (.builtin "len") vs) (.int l.length) := by
  refine TL.mk ?_
  intro prog A s vs Q E hA ho r hQ
  obtain ⟨v, rfl, r1⟩ := r.one
  obtain ⟨t, rfl⟩ := r1.str_i
  refine PyProof.Rows.len_str (by rw [mkS_len]; omega) ?_
  rw [mkS_len]
  exact hQ _ _ Step.tok (.int _ _)
theorem TL.lenl {l : List D} (h : l.length < 2 ^ 60) : TL C k Mu [.list l] (fun vs => call (.builtin "len") vs) (.int l.length) := by
  refine TL.mk ?_
  intro prog A s vs Q E hA ho r hQ
  obtain ⟨v, rfl, r1⟩ := r.one
  obtain ⟨a, n, us, rfl, x, y⟩ := r1.list_i
  have e : us.toArray.size = l.length := by rw [List.size_toArray, y.length]
  refine len_list (isList_of x.2) (by rw [e]; omega) ?_
  rw [e]
  exact hQ _ _ Step.tok (.int _ _)
theorem TL.divmod {a b : Int} (h : b ≠ 0) (hp : Builtin.divisionGoesByPylong a b = false) : TL C k Mu [.int a, .int b] (fun vs => call (.builtin "divmod") vs) (.tup [.int (a.fdiv b), .int (a.fmod b)]) := by
  refine TL.mk ?_
  intro prog A s vs Q E hA ho r hQ
  obtain ⟨t, u, rfl⟩ := r.ii
  exact divmod_int h (hQ _ _ Step.push (.tup (vs := [_, _]) (n := 0) (fresh_vis ho) (.cons (.int _ _) (.cons (.int _ _) .nil)))) (.inl hp)
theorem TL.range1 {n : Int} : TL C k Mu [.int n] (fun vs => call (.type "range") vs) (.rng 0 n 1) := by
  refine TL.mk ?_
  intro prog A s vs Q E hA ho r hQ
  obtain ⟨v, rfl, r1⟩ := r.one
  obtain ⟨t, rfl⟩ := r1.int_i
  exact call_range_1 (hQ _ _ Step.push (.rng (fresh_vis ho)))
theorem TL.range2 {a b : Int} : TL C k Mu [.int a, .int b] (fun vs => call (.type "range") vs) (.rng a b 1) := by
  refine TL.mk ?_
  intro prog A s vs Q E hA ho r hQ
  obtain ⟨t, u, rfl⟩ := r.ii
  exact call_range_2 (hQ _ _ Step.push (.rng (fresh_vis ho)))
theorem TL.range3 {a b c : Int} (h : c ≠ 0) (hp : Builtin.divisionGoesByPylong (b - a) c = false) : TL C k Mu [.int a, .int b, .int c] (fun vs => call (.type "range") vs) (.rng a b c) := by
  refine TL.mk ?_
  intro prog A s vs Q E hA ho r hQ
  obtain ⟨v, w, u, rfl, r1, r2, r3⟩ := r.three
  obtain ⟨t, rfl⟩ := r1.int_i
  obtain ⟨t2, rfl⟩ := r2.int_i
  obtain ⟨t3, rfl⟩ := r3.int_i
  exact call_range_3 h (hQ _ _ Step.push (.rng (fresh_vis ho))) (.inl hp)
theorem TL.max {a b : Int} : TL C k Mu [.int a, .int b] (fun vs => call (.builtin "max") vs) (.int (if b > a then b else a)) := by
  refine TL.mk ?_
  intro prog A s vs Q E hA ho r hQ
  obtain ⟨t, u, rfl⟩ := r.ii
  refine max_two_ints hA.1 fun h' tk hk => hQ _ _ (Step.of hk) ?_
  split <;> exact .int _ _
theorem TL.bitlen {a : Int} : TL C k Mu [.int a] (fun vs => call (.builtin "int.bit_length") vs) (.int (Builtin.Int.intBits a)) := by
  refine TL.mk ?_
  intro prog A s vs Q E hA ho r hQ
  obtain ⟨v, rfl, r1⟩ := r.one
  obtain ⟨t, rfl⟩ := r1.int_i
  exact call_int_bit_length (hQ _ _ Step.tok (.int _ _))
theorem TL.count {x y : List Nat} : TL C k Mu [.str x, .str y] (fun vs => call (.builtin "str.count") vs) (.int (Txt.count (mkS x) (mkS y))) := by
  refine TL.mk ?_
  intro prog A s vs Q E hA ho r hQ
  obtain ⟨t, u, rfl⟩ := r.ss
  exact SC.count (hQ _ _ Step.tok (.int _ _))
theorem TL.find {x y : List Nat} : TL C k Mu [.str x, .str y] (fun vs => call (.builtin "str.find") vs) (.int (Txt.find (mkS x) (mkS y))) := by
  refine TL.mk ?_
  intro prog A s vs Q E hA ho r hQ
  obtain ⟨t, u, rfl⟩ := r.ss
  exact SC.find (hQ _ _ Step.tok (.int _ _))
theorem TL.startswith {x y : List Nat} : TL C k Mu [.str x, .str y] (fun vs => call (.builtin "str.startswith") vs) (.bool (Txt.startswith (mkS x) (mkS y))) := by
  refine TL.mk ?_
  intro prog A s vs Q E hA ho r hQ
  obtain ⟨t, u, rfl⟩ := r.ss
  exact SC.startswith (hQ _ _ (Step.refl _) (.bool _))
theorem TL.endswith {x y : List Nat} : TL C k Mu [.str x, .str y] (fun vs => call (.builtin "str.endswith") vs) (.bool (Txt.endswith (mkS x) (mkS y))) := by
  refine TL.mk ?_
  intro prog A s vs Q E hA ho r hQ
  obtain ⟨t, u, rfl⟩ := r.ss
  exact SC.endswith (hQ _ _ (Step.refl _) (.bool _))
theorem fromIndex_nat (n j : Nat) : fromIndex n (j : Int) = j := by unfold fromIndex; rw [if_neg (by omega)]; omega
theorem TL.find4 {x y : List Nat} {i j : Nat} (hj : j ≤ x.length) : TL C k Mu [.str x, .str y, .int i, .int j] (fun vs => call (.builtin "str.find") vs) (.int (findIn x y i j)) := by
  refine TL.mk ?_
  intro prog A s vs Q E hA ho r hQ
  obtain ⟨v, ws, rfl, a, t⟩ := r.cons_i
  obtain ⟨w, u, z, rfl, r2, r3, r4⟩ := t.three
  obtain ⟨t1, rfl⟩ := a.str_i
  obtain ⟨t2, rfl⟩ := r2.str_i
  obtain ⟨t3, rfl⟩ := r3.int_i
  obtain ⟨t4, rfl⟩ := r4.int_i
  refine call_gives PySem.F.slot_str_find (typeIs_str _ _ _) PySem.F.entry_str_find (PySem.F.args_str_find_4 _ _ _ _) (gives_str_find4 _ _ _ _ _ _ _ _) ?_
  rw [fromIndex_nat, fromIndex_nat, mkS_len, Nat.min_eq_left hj]
  exact hQ _ _ Step.tok (.int _ _)
end
theorem OK.upd {C : Base} {Mu : Addr → Prop} {s : Shared} {c : Addr} {h' : Heap} {tk : Nat} (x : OK C Mu s) (hc : Mu c) (hn : ¬ isTab c) (hs : Heap.SameBut c s.heap h') (hl : ∃ o, h'.get? c = some o) : OK C Mu { s with heap := h', toks := tk } := by
  have k : ∀ a, a ≠ c → h'.get? a = s.heap.get? a := fun a h => hs.2 a h
  have tb : ∀ P, isTab P → h'.get? P = s.heap.get? P := fun P hP => k P fun q => hn (q ▸ hP)
  have one : ∀ (P line col : Nat) (q : Str), isTab P → TabOK P line col q s.heap → TabOK P line col q h' := fun P line col q hP t => by
    rcases t with e | ⟨c', n, e, r⟩
    · exact .inl ((tb P hP).trans e)
    · obtain ⟨c₂, oc, vs, tq, e1, e2, e3, e4⟩ := r
      cases e1
      exact .inr ⟨c', n, (tb P hP).trans e, c', oc, vs, tq, rfl, (k c' fun q => x.code P _ _ c' hP e (by rw [q]; exact hc)).trans e2, e3, e4⟩
  exact {
    keep := fun a o e => (k a (fun q => x.hb a o e (q ▸ hc))).trans (x.keep a o e)
    hb := x.hb
    tabs := ⟨one _ _ _ _ (.inl rfl) x.tabs.t1, one _ _ _ _ (.inr rfl) x.tabs.t2⟩
    gens := x.gens
    os := x.os
    live := fun a ha => by
      by_cases q : a = c
      · subst q; exact hl
      · obtain ⟨o, e⟩ := x.live a ha; exact ⟨o, (k a q).trans e⟩
    tab := x.tab
    code := fun P l1 l2 c' hP e => x.code P l1 l2 c' hP ((tb P hP).symm.trans e) }
theorem vis_upd {Mu : Addr → Prop} {h h' : Heap} {c : Addr} (hc : Mu c) (hs : Heap.SameBut c h h') : ∀ a o, vis Mu h a o → vis Mu h' a o := fun a o v => ⟨v.1, (hs.2 a fun q => v.1 (q ▸ hc)).trans v.2⟩
section
variable {C : Base} {k : Nat} {F : Fn} {ρ : Rho}
theorem ns_ne_cell {h : Heap} {a c : Addr} {m} {v} (hn : h.Ns a m) (hc : h.IsCell c v) : c ≠ a := fun q => by
  obtain ⟨o, es, ep, e, hd, _⟩ := hn
  obtain ⟨o', e', hd'⟩ := hc
  rw [q, e] at e'; cases e'; rw [hd] at hd'; cases hd'
theorem At.set {h h' : Heap} {m : Str → Option Value} {x y : Str} {v w : Value} (hn : h.Ns F.env.locals m) (hs : Heap.SameBut F.env.locals h h') (hxy : y ≠ x) (a : At F h m y w) : At F h' (fun z => if z = x then some v else m z) y w := by
  rcases a with ⟨h1, h2⟩ | ⟨h1, c, h2, h3⟩
  · exact .inl ⟨h1, by simp [hxy, h2]⟩
  · exact .inr ⟨h1, c, h2, h3.sameBut hs (ns_ne_cell hn h3)⟩
theorem St.storeV (H : FOK F) {s : Shared} {x : Str} {d : D} {v : Value} (hs : St C F ρ s) (hl : F.env.kindOf x = some .local) (hr : HasV F s.heap v d) (hx : ∀ p ∈ ρ, p.1 ≠ x)
    {prog : Program} {A : Around} {Q : Unit → Shared → Prop} {E} (hQ : ∀ s', St C F ((x, d) :: ρ) s' → Q () s') : wpAny (model prog C.w) A (storeName F.env x v) Q E s := by
  obtain ⟨m, n, hh⟩ := hs.fr
  refine wpAny_storeName_local hl n (fun h' n' hsb => hQ _ ?_) (by rw [H.kind]; rfl)
  have hm := vis_upd H.mu hsb
  have hw : ∀ a ob, F.own a → plainO ob = true → s.heap.get? a = some ob → F.own a ∧ h'.get? a = some ob := fun a ob w p e => ⟨w, (hsb.2 a fun q => by rw [plain_ne_dict n (q ▸ e)] at p; cases p).trans e⟩
  refine ⟨hs.ok.upd H.mu (notTab_ns hs.ok.tabs n) hsb (let ⟨o, _, _, e, _⟩ := n'; ⟨o, e⟩), fun a o e => (hsb.2 a fun q => H.kp o (q ▸ e)).trans (hs.kept a o e), hs.since.trans (Since.sameBut (notTab_ns hs.ok.tabs n) hsb (let ⟨o, _, _, e, _⟩ := n'; ⟨o, e⟩)), fun y c e => let ⟨v, hc⟩ := hs.cells y c e; ⟨v, hc.sameBut hsb (ns_ne_cell n hc)⟩, _, n', fun p hp => ?_⟩
  rcases List.mem_cons.mp hp with rfl | hp
  · exact ⟨v, hr.mono hm hw, .inl ⟨hl, by simp⟩⟩
  · obtain ⟨w, r, a⟩ := hh p hp
    exact ⟨w, r.mono hm hw, a.set n hsb (hx p hp)⟩
theorem St.store (H : FOK F) {s : Shared} {x : Str} {d : D} {v : Value} (hs : St C F ρ s) (hl : F.env.kindOf x = some .local) (hr : Rep (vis F.Mu s.heap) v d) (hx : ∀ p ∈ ρ, p.1 ≠ x)
    {prog : Program} {A : Around} {Q : Unit → Shared → Prop} {E} (hQ : ∀ s', St C F ((x, d) :: ρ) s' → Q () s') : wpAny (model prog C.w) A (storeName F.env x v) Q E s := St.storeV H hs hl (.of hr) hx hQ
theorem St.weaken {ρ' : Rho} {s : Shared} (hs : St C F ρ s) (h : ∀ p ∈ ρ', p ∈ ρ) : St C F ρ' s := ⟨hs.ok, hs.kept, hs.since, hs.cells, let ⟨m, n, hh⟩ := hs.fr; ⟨m, n, fun p hp => hh p (h p hp)⟩⟩
structure CellOK (F : Fn) (x : Str) (c : Addr) : Prop where
  kind : F.env.kindOf x = some .cell
  at_ : F.env.cells.lookup x = some c
  own : F.own c
  inj : ∀ y, F.env.cells.lookup y = some c → y = x
theorem CellOK.mu {x : Str} {c : Addr} (K : CellOK F x c) (H : FOK F) : F.Mu c := H.ownMu _ K.own
theorem CellOK.kp {x : Str} {c : Addr} (K : CellOK F x c) (H : FOK F) : ∀ o, ¬ F.Kp c o := fun o h => H.ownKp _ o h K.own
theorem St.storeCV (H : FOK F) {s : Shared} {x : Str} {c : Addr} {d : D} {v : Value} (K : CellOK F x c) (hs : St C F ρ s) (hr : HasV F s.heap v d) (hx : ∀ p ∈ ρ, p.1 ≠ x)
    {prog : Program} {A : Around} {Q : Unit → Shared → Prop} {E} (hQ : ∀ s', St C F ((x, d) :: ρ) s' → Q () s') : wpAny (model prog C.w) A (storeName F.env x v) Q E s := by
  obtain ⟨m, n, hh⟩ := hs.fr
  obtain ⟨v0, hc⟩ := hs.cells _ _ K.at_
  refine wpAny_storeName_cell H.kind K.kind K.at_ hc (fun h' hc' hsb => hQ _ ?_)
  have hm := vis_upd (K.mu H) hsb
  have hw : ∀ a ob, F.own a → plainO ob = true → s.heap.get? a = some ob → F.own a ∧ h'.get? a = some ob := fun a ob w p e => ⟨w, (hsb.2 a fun q => by rw [plain_ne_cell hc (q ▸ e)] at p; cases p).trans e⟩
  have hne : F.env.locals ≠ c := (ns_ne_cell n hc).symm
  refine ⟨hs.ok.upd (tk := s.toks) (K.mu H) (notTab_cell hs.ok.tabs hc) hsb (let ⟨o, e, _⟩ := hc'; ⟨o, e⟩), fun a o e => (hsb.2 a fun q => K.kp H o (q ▸ e)).trans (hs.kept a o e), hs.since.trans (Since.sameBut (notTab_cell hs.ok.tabs hc) hsb (let ⟨o, e, _⟩ := hc'; ⟨o, e⟩)), fun y c₂ e => (by
    by_cases q : c₂ = c
    · rw [q]; exact ⟨_, hc'⟩
    · obtain ⟨v, hv⟩ := hs.cells y c₂ e
      exact ⟨v, hv.sameBut hsb q⟩), _, n.sameBut hsb hne, fun p hp => ?_⟩
  rcases List.mem_cons.mp hp with rfl | hp
  · exact ⟨v, hr.mono hm hw, .inr ⟨.inl K.kind, c, K.at_, hc'⟩⟩
  · obtain ⟨w, r, a⟩ := hh p hp
    refine ⟨w, r.mono hm hw, ?_⟩
    rcases a with h1 | ⟨h1, c₂, h2, h3⟩
    · exact .inl h1
    · exact .inr ⟨h1, c₂, h2, h3.sameBut hsb fun q => hx p hp (K.inj _ (q ▸ h2))⟩
theorem St.storeC (H : FOK F) {s : Shared} {x : Str} {c : Addr} {d : D} {v : Value} (K : CellOK F x c) (hs : St C F ρ s) (hr : Rep (vis F.Mu s.heap) v d) (hx : ∀ p ∈ ρ, p.1 ≠ x)
    {prog : Program} {A : Around} {Q : Unit → Shared → Prop} {E} (hQ : ∀ s', St C F ((x, d) :: ρ) s' → Q () s') : wpAny (model prog C.w) A (storeName F.env x v) Q E s := St.storeCV H K hs (.of hr) hx hQ
noncomputable def XS (prog : Program) (C : Base) (A : Around) (F : Fn) (ρ : Rho) (sts : List Stmt) (Q : Flow → Shared → Prop) (E : Value → Shared → Prop) : Prop :=
  ∀ s, St C F ρ s → wpAny (model prog C.w) A (execs sts F.env) Q E s
noncomputable def Then (prog : Program) (C : Base) (A : Around) (F : Fn) (rest : List Stmt) (Q : Flow → Shared → Prop) (E : Value → Shared → Prop) : Flow → Shared → Prop := fun f s =>
  match f with
  | .next => wpAny (model prog C.w) A (execs rest F.env) Q E s
  | f => Q f s
variable {prog : Program} {A : Around} {Q : Flow → Shared → Prop} {E : Value → Shared → Prop} {rest : List Stmt}
theorem XS.nil (h : ∀ s, St C F ρ s → Q .next s) : XS prog C A F ρ [] Q E := fun s hs => wpAny_execs_nil (h s hs)
theorem XS.thenn {ρ' : Rho} (h : XS prog C A F ρ' rest Q E) (hw : ∀ p ∈ ρ', p ∈ ρ) : XS prog C A F ρ [] (Then prog C A F rest Q E) E := fun s hs => wpAny_execs_nil (h s (hs.weaken hw))
theorem XS.weaken {ρ' : Rho} {sts : List Stmt} (h : XS prog C A F ρ' sts Q E) (hw : ∀ p ∈ ρ', p ∈ ρ) : XS prog C A F ρ sts Q E := fun s hs => h s (hs.weaken hw)
theorem XS.ret {e : Expr} {pos} {d : D} (H : FOK F) (hA : Rm k A) (he : EV C k F ρ e d) (hQ : ∀ v s, St C F ρ s → Rep (vis F.Mu s.heap) v d → Q (.ret v) s) : XS prog C A F ρ (.Return (some e) pos :: rest) Q E := by
  intro s hs
  refine wpAny_execs_cons (wpAny_Return_some (he.run _ _ _ _ _ hA hs fun v s' y r => ?_))
  exact hQ v s' (hs.step y H.nt) r
theorem XS.asg {x : Str} {px pos : Pos} {e : Expr} {d : D} (H : FOK F) (hA : Rm k A) (he : EV C k F ρ e d) (hl : F.env.kindOf x = some .local) (hx : ∀ p ∈ ρ, p.1 ≠ x)
    (h : XS prog C A F ((x, d) :: ρ) rest Q E) (hsw : swapsWith e (some (.Name x px)) pos.line F.env = pure false := by rfl) : XS prog C A F ρ (.Assign [.Name x px] e pos :: rest) Q E := by
  intro s hs
  refine wpAny_execs_cons (wpAny_Assign_Name (he.run _ _ _ _ _ hA hs fun v s' y r => ?_) hsw)
  exact St.store H (hs.step y H.nt) hl r hx fun s2 h2 => h s2 h2
theorem XS.iff {t : Expr} {b : Bool} {body orelse : List Stmt} {pos : Pos} (H : FOK F) (hA : Rm k A) (ht : TT C k F ρ t b)
    (h1 : b = true → XS prog C A F ρ body (Then prog C A F rest Q E) E) (h2 : b = false → XS prog C A F ρ orelse (Then prog C A F rest Q E) E) : XS prog C A F ρ (.If t body orelse pos :: rest) Q E := by
  intro s hs
  refine wpAny_execs_cons (wpAny_If (ht.run _ _ _ _ _ hA hs fun s' y => ?_))
  have hs' := hs.step y H.nt
  have fin : ∀ sts, XS prog C A F ρ sts (Then prog C A F rest Q E) E → wpAny (model prog C.w) A (execs sts F.env) (fun f s' => match f with | .next => wpAny (model prog C.w) A (execs rest F.env) Q E s' | f => Q f s') E s' := fun sts h =>
    wpAny_mono (h s' hs') (fun f s2 q => by cases f <;> exact q) fun _ _ q => q
  cases b with
  | true => exact fin _ (h1 rfl)
  | false => exact fin _ (h2 rfl)
end
theorem tab_code {h : Heap} (t : TabsOK h) {P l1 l2 c'} (hP : isTab P) (e : h.get? P = some (tabObj #[l1, l2, .ref c'])) : ∃ q, h.CodeRec (.ref c') q := by
  have one : ∀ (line col : Nat) (q : Str), TabOK P line col q h → ∃ q, h.CodeRec (.ref c') q := fun line col q t => by
    rcases t with f | ⟨c₂, _, f, r⟩ <;> rw [e] at f
    · simp [tabObj] at f
    · simp [tabObj] at f
      rw [f.2.2]; exact ⟨_, r⟩
  rcases hP with rfl | rfl
  · exact one _ _ _ t.t1
  · exact one _ _ _ t.t2
theorem notCode {h : Heap} {a : Addr} {o : Obj} (e : h.get? a = some o) (hd : ∀ vs q t, o.data = .fields vs → vs[1]? ≠ some (.str q t)) : ∀ q, ¬ h.CodeRec (.ref a) q := fun q x => by
  obtain ⟨c, oc, vs, tq, e1, e2, e3, e4⟩ := x
  cases e1
  rw [e] at e2; cases e2
  exact hd vs q tq e3 e4
theorem OK.add {C : Base} {Mu : Addr → Prop} {s : Shared} (x : OK C Mu s) (N : Addr → Prop) (h1 : ∀ a, N a → C.hb.get? a = none) (h2 : ∀ a, N a → ∃ o, s.heap.get? a = some o) (h3 : ∀ a, N a → ∀ q, ¬ s.heap.CodeRec (.ref a) q) : OK C (fun a => Mu a ∨ N a) s := by
  refine ⟨x.keep, fun a o e => ?_, x.tabs, x.gens, x.os, fun a ha => ha.elim (x.live a) (h2 a), fun a ha => .inl (x.tab a ha), fun P l1 l2 c' hP e => ?_⟩
  · rintro (h | h)
    · exact x.hb a o e h
    · rw [h1 a h] at e; cases e
  · rintro (h | h)
    · exact x.code P l1 l2 c' hP e h
    · obtain ⟨q, r⟩ := tab_code x.tabs hP e
      exact h3 c' h q r
noncomputable def Ret (C : Base) (F : Fn) (d : D) : Flow → Shared → Prop := fun f s => ∃ v, f = .ret v ∧ St C F [] s ∧ Rep (vis F.Mu s.heap) v d
noncomputable def NoE : Value → Shared → Prop := fun _ _ => False
structure Made (C : Base) (Mu : Addr → Prop) (h₀ : Heap) (F : Fn) : Prop where
  fok : FOK F
  mu : ∀ a, Mu a → F.Mu a
  kp : ∀ a o, ¬ isTab a → h₀.get? a = some o → F.Kp a o
  h₀ : F.h₀ = h₀
  ownC : ∀ a, F.own a → a = F.env.locals ∨ ∃ x, F.env.cells.lookup x = some a
  tab : ∀ a, isTab a → F.Mu a
theorem Made.step {C : Base} {Mu : Addr → Prop} {F : Fn} {s s' : Shared} (M : Made C Mu s.heap F) (o : OK C Mu s) (x : St C F [] s') : Step s s' where
  keep := fun a ob nt e => x.kept a ob (M.kp a ob nt e)
  tabs := fun _ => ⟨x.ok.tabs, fun P hP => by have := x.since.tabc P hP; rw [M.h₀] at this; exact this⟩
  gens := x.ok.gens.trans o.gens.symm
  os := x.ok.os.trans o.os.symm
theorem RepL.zipHas {g : Vis} : ∀ {names : List Str} {vs : List Value} {ds : List D}, RepL g vs ds → names.length = vs.length → names.Nodup → ∀ p ∈ names.zip ds, ∃ v, Rep g v p.2 ∧ (names.zip vs).reverse.lookup p.1 = some v := by
  intro names vs ds h hl hn p hp
  have : ∀ {names : List Str} {vs : List Value} {ds : List D}, RepL g vs ds → names.length = vs.length → names.Nodup → ∀ p ∈ names.zip ds, ∃ v, Rep g v p.2 ∧ (p.1, v) ∈ names.zip vs := by
    intro names
    induction names with
    | nil => intro vs ds _ _ _ p hp; simp at hp
    | cons x r ih =>
      intro vs ds h hl hn p hp
      cases h with
      | nil => simp at hl
      | cons a t =>
        rw [List.zip_cons_cons] at hp
        rcases List.mem_cons.mp hp with rfl | hp
        · exact ⟨_, a, by simp⟩
        · obtain ⟨v, r', hm⟩ := ih t (by simpa using hl) (List.nodup_cons.mp hn).2 p hp
          exact ⟨v, r', by rw [List.zip_cons_cons]; exact List.mem_cons_of_mem _ hm⟩
  obtain ⟨v, r, hm⟩ := this h hl hn p hp
  refine ⟨v, r, ?_⟩
  have key : ∀ (l : List (Str × Value)), (l.map (·.1)).Nodup → ∀ x v, (x, v) ∈ l → l.reverse.lookup x = some v := by
    intro l
    induction l with
    | nil => intro _ x v h; simp at h
    | cons q t ih =>
      intro hnd x v hm
      obtain ⟨qx, qv⟩ := q
      rw [List.map_cons, List.nodup_cons] at hnd
      rw [List.reverse_cons, List.lookup_append]
      rcases List.mem_cons.mp hm with e | hm
      · cases e
        have : t.reverse.lookup x = none := by
          rw [List.lookup_eq_none_iff]
          intro p hp
          simp only [List.mem_reverse] at hp
          simp only [beq_eq_false_iff_ne, ne_eq, bne_iff_ne]
          intro e
          exact hnd.1 (List.mem_map.mpr ⟨p, hp, by simpa using e.symm⟩)
        rw [this]; simp
      · rw [ih hnd.2 x v hm]; rfl
  refine key _ ?_ _ _ hm
  rw [List.map_fst_zip (by omega)]; exact hn
section
variable {C : Base} {k : Nat} {Mu : Addr → Prop}
theorem TL.defn {a : Addr} {fd : FuncData} {body : List Stmt} {names : List Str} {ds : List D} {d : D} (hfd : C.FD a = some fd) (hbody : fd.body = .stmts body) (hclo : fd.closure = [])
    (hbind : ∀ vs : List Value, vs.length = ds.length → bindArgs fd ⟨vs, []⟩ = pure (names.zip vs)) (hlen : names.length = ds.length) (hnd : names.Nodup)
    (hloc : ∀ x ∈ names, fd.scope.names.lookup x = some .local) (hcell : ∀ x ∈ fd.scope.names, x.2 ≠ .cell)
    (hg : fd.globals = mainGlobals) (hbi : fd.builtins = builtinsNs) (hco : fd.scope.isCoroutine = false) (hgen : fd.scope.isGenerator = false) (hk : fd.scope.kind = .function)
    (h : ∀ (prog : Program) (A : Around) (F : Fn) (L : Addr) (h₀ : Heap), F.env = newEnv fd.scope L fd.globals [] (fd.qualname ++ ".<locals>.") (some a) fd.code none fd.builtins → Made C Mu h₀ F → Rm k A →
      XS prog C A F (names.zip ds) body (Ret C F d) NoE) :
    TL C (k + 1) Mu ds (fun vs => call (.ref a) vs) d := by
  refine TL.mk ?_
  intro prog A s vs Q E hA ho r hQ
  obtain ⟨o, hobj, hdat, hcd⟩ := C.fn _ _ hfd
  have hl := r.length
  refine wpAny_call (codeAny_call_function hA.room (ho.keep _ _ hobj) hdat hco hgen hbody (hcd.keeps ho.keep) ?_)
  rw [hbind vs hl, hclo]
  refine wpAny_pure (wpAny_newFunctionEnv hcell (fun x hx => hloc _ (List.of_mem_zip hx).1) (fun h₁ hns hsb => ?_) hk)
  have kp : ∀ b ob, s.heap.get? b = some ob → h₁.get? b = some ob := fun b ob e => hsb.extBut b ob (Nat.ne_of_lt (Heap.lt_size e)) (Heap.get?_push_of_some _ e)
  have hfresh : s.heap.get? s.heap.objs.size = none := by
    cases q : s.heap.get? s.heap.objs.size with
    | none => rfl
    | some ob => exact absurd (Heap.lt_size q) (Nat.lt_irrefl _)
  refine ⟨(C.nolimit.keeps ho.keep).fresh _ hsb, codeAny_func ?_⟩
  let F : Fn := ⟨newEnv fd.scope s.heap.objs.size fd.globals [] (fd.qualname ++ ".<locals>.") (some a) fd.code none fd.builtins, fun b => Mu b ∨ b = s.heap.objs.size, fun b ob => ¬ isTab b ∧ s.heap.get? b = some ob, s.heap, fun b => b = s.heap.objs.size⟩
  have M : Made C Mu s.heap F := ⟨⟨⟨hk, rfl, fun b hb => .inr hb, fun b ob e hb => (by
    have h2 : s.heap.get? b = some ob := e.2
    rw [show b = s.heap.objs.size from hb, hfresh] at h2; cases h2), hg, hbi⟩, fun b ob e => e.1⟩, fun b hb => .inl hb, fun b ob nt e => ⟨nt, e⟩, rfl, fun b hb => .inl hb, fun b t => .inl (ho.tab b t)⟩
  have lv : ∃ ob, h₁.get? s.heap.objs.size = some ob := let ⟨ob, _, _, e, _⟩ := hns; ⟨ob, e⟩
  have ok1 : OK C F.Mu { s with heap := h₁, toks := s.toks + (names.zip vs).length } := (ho.step (Step.of kp)).add (fun b => b = s.heap.objs.size)
    (fun b hb => by
      subst hb
      cases q : C.hb.get? s.heap.objs.size with
      | none => rfl
      | some ob => rw [ho.keep _ _ q] at hfresh; cases hfresh)
    (fun b hb => by subst hb; exact lv)
    (fun b hb => by
      subst hb
      obtain ⟨ob, es, ep, e, hd, _⟩ := hns
      exact notCode e fun vs q t hf => by rw [hd] at hf; cases hf)
  have hv : ∀ b ob, vis Mu s.heap b ob → vis F.Mu h₁ b ob := fun b ob v => ⟨fun hm => hm.elim v.1 fun q => (by
    have h2 := v.2
    rw [q, hfresh] at h2; cases h2), kp _ _ v.2⟩
  have st : St C F (names.zip ds) { s with heap := h₁, toks := s.toks + (names.zip vs).length } := by
    refine ⟨ok1, fun b ob e => kp b ob e.2, ⟨fun b ob e => ⟨ob, kp b ob e⟩, fun P hP => .inl ?_⟩, fun x c e => (nomatch e), _, hns, fun p hp => ?_⟩
    · obtain ⟨ob, e⟩ := tab_live ho.tabs P hP
      exact (kp _ _ e).trans e.symm
    · obtain ⟨v, rv, lk⟩ := r.zipHas (by omega) hnd p hp
      exact ⟨v, .of (rv.mono hv), .inl ⟨hloc _ (List.of_mem_zip hp).1, lk⟩⟩
  refine wpAny_mono (h prog _ F _ _ rfl M hA.deeper _ st) (fun f s' q => ?_) fun _ _ q => q.elim
  obtain ⟨v, rfl, st', rv⟩ := q
  exact hQ v s' (M.step ho st') (rv.mono fun b ob v => ⟨fun hm => v.1 (.inl hm), v.2⟩)
end
structure Like (F F₂ : Fn) : Prop where
  env : F₂.env = F.env
  own : F₂.own = F.own
  mu : ∀ a, F.Mu a → F₂.Mu a
  fok : FOK F₂
theorem Like.cell {F F₂ : Fn} (L : Like F F₂) {x : Str} {c : Addr} (K : CellOK F x c) : CellOK F₂ x c := by
  obtain ⟨h1, h2, h3, h4⟩ := K
  refine ⟨?_, ?_, ?_, fun y hy => h4 y ?_⟩
  · rw [L.env]; exact h1
  · rw [L.env]; exact h2
  · rw [L.own]; exact h3
  · rw [← L.env]; exact hy
theorem Like.trans {F F₂ F₃ : Fn} (x : Like F F₂) (y : Like F₂ F₃) : Like F F₃ := ⟨y.env.trans x.env, y.own.trans x.own, fun a h => y.mu a (x.mu a h), y.fok⟩
noncomputable def Fn.grow (F : Fn) (wr : Addr → Prop) : Fn := { F with Mu := fun a => F.Mu a ∨ wr a }
noncomputable def Fn.base (F : Fn) (h : Heap) : Fn := { F with Kp := fun a o => ¬ isTab a ∧ ¬ F.own a ∧ h.get? a = some o, h₀ := h }
theorem Like.grow {F : Fn} (H : FOK F) (wr : Addr → Prop) : Like F (F.grow wr) := ⟨rfl, rfl, fun _ => .inl, ⟨⟨H.kind, H.ownL, fun a ha => .inl (H.ownMu a ha), H.ownKp, H.glob, H.bi⟩, H.nt⟩⟩
theorem Like.base {F : Fn} (H : FOK F) (h : Heap) : Like F (F.base h) := ⟨rfl, rfl, fun _ => id, ⟨⟨H.kind, H.ownL, H.ownMu, fun _ _ e => e.2.1, H.glob, H.bi⟩, fun _ _ e => e.1⟩⟩
section
variable {C : Base} {k : Nat} {F : Fn} {ρ : Rho}
theorem Has.mono {F F₂ : Fn} {h h' : Heap} {m : Str → Option Value} {x : Str} {d : D} (he : F₂.env = F.env) (hv : ∀ a o, vis F.Mu h a o → vis F₂.Mu h' a o) (ho : ∀ a o, F.own a → plainO o = true → h.get? a = some o → F₂.own a ∧ h'.get? a = some o)
    (hc : ∀ c v, F.env.cells.lookup x = some c → h.IsCell c (some v) → h'.IsCell c (some v)) (H : Has F h m x d) : Has F₂ h' m x d := by
  obtain ⟨v, r, a⟩ := H
  refine ⟨v, r.mono hv ho, ?_⟩
  rcases a with ⟨h1, h2⟩ | ⟨h1, c, h2, h3⟩
  · exact .inl ⟨by rw [he]; exact h1, h2⟩
  · exact .inr ⟨by rw [he]; exact h1, c, by rw [he]; exact h2, hc c v h2 h3⟩
theorem St.shrink {s : Shared} {wr : Addr → Prop} (h : St C (F.grow wr) ρ s) (o : OK C F.Mu s) : St C F ρ s := by
  obtain ⟨m, n, hh⟩ := h.fr
  exact ⟨o, h.kept, h.since, h.cells, m, n, fun p hp => (hh p hp).mono (F := F.grow wr) rfl (fun a o v => ⟨fun hm => v.1 (.inl hm), v.2⟩) (fun _ _ w _ e => ⟨w, e⟩) fun _ _ _ e => e⟩
theorem OK.less {Mu Mu' : Addr → Prop} {s : Shared} (x : OK C Mu s) (h : ∀ a, Mu' a → Mu a) (ht : ∀ a, isTab a → Mu' a) : OK C Mu' s :=
  ⟨x.keep, fun a o e hm => x.hb a o e (h a hm), x.tabs, x.gens, x.os, fun a ha => x.live a (h a ha), ht, fun P l1 l2 c' hP e hm => x.code P l1 l2 c' hP e (h _ hm)⟩
theorem St.ungrow {s : Shared} {wr : Addr → Prop} (h : St C (F.grow wr) ρ s) (ht : ∀ a, isTab a → F.Mu a) : St C F ρ s := h.shrink (h.ok.less (fun _ => .inl) ht)
theorem St.base {s : Shared} (h : St C F ρ s) : St C (F.base s.heap) ρ s := by
  obtain ⟨m, n, hh⟩ := h.fr
  exact ⟨h.ok, fun a o e => e.2.2, Since.refl _, h.cells, m, n, fun p hp => hh p hp⟩
theorem St.unbase (H : FOK F) {s s' : Shared} {ρ' : Rho} (hs : St C F ρ s) (h : St C (F.base s.heap) ρ' s') : St C F ρ' s' := by
  obtain ⟨m, n, hh⟩ := h.fr
  exact ⟨h.ok, fun a o e => h.kept a o ⟨H.nt a o e, H.ownKp a o e, hs.kept a o e⟩, hs.since.trans h.since, h.cells, m, n, fun p hp => hh p hp⟩
theorem St.ingrow {s s' : Shared} {wr : Addr → Prop} (H : FOK F) (hs : St C F ρ s) (y : Step s s') (hf : ∀ a, wr a → s.heap.get? a = none) (hl : ∀ a, wr a → ∃ o, s'.heap.get? a = some o) (hc : ∀ a, wr a → ∀ q, ¬ s'.heap.CodeRec (.ref a) q) : St C (F.grow wr) ρ s' := by
  have h' := hs.step y H.nt
  have ok := h'.ok.add wr (fun a ha => by
    cases q : C.hb.get? a with
    | none => rfl
    | some o => have := hs.ok.keep _ _ q; rw [hf a ha] at this; cases this) hl hc
  obtain ⟨m, n, hh⟩ := hs.fr
  refine ⟨ok, h'.kept, h'.since, h'.cells, m, ns_step y hs.ok.tabs n, fun p hp => (hh p hp).mono (F := F) (F₂ := F.grow wr) rfl (fun a o v => ⟨fun hm => ?_, ?_⟩) (fun a ob w p e => ⟨w, y.keep a ob (fun t => by obtain ⟨vs, q⟩ := tab_fields hs.ok.tabs t; rw [e] at q; cases q; cases p) e⟩) fun c v _ e => cell_step y hs.ok.tabs e⟩
  · rcases hm with hm | hm
    · exact v.1 hm
    · have := v.2; rw [hf a hm] at this; cases this
  · exact (hs.ok.vis y a o v).2
theorem St.atWr {s : Shared} {wr : Addr → Prop} {h' : Heap} {tk : Nat} (hs : St C (F.grow wr) ρ s) (hk : ∀ a o, ¬ wr a → s.heap.get? a = some o → h'.get? a = some o) (hl : ∀ a, wr a → ∃ o, h'.get? a = some o)
    (hT : ∀ a, wr a → ¬ isTab a) (hK : ∀ a o, F.Kp a o → ¬ wr a) (hL : ¬ wr F.env.locals) (hC : ∀ x c, F.env.cells.lookup x = some c → ¬ wr c) (hB : ∀ a o, C.hb.get? a = some o → ¬ wr a) (hO : ∀ a, F.own a → ¬ wr a) : St C (F.grow wr) ρ { s with heap := h', toks := tk } := by
  have tb : ∀ P, isTab P → h'.get? P = s.heap.get? P := fun P hP => by
    obtain ⟨o, e⟩ := tab_live hs.ok.tabs P hP
    exact (hk _ _ (fun w => hT P w hP) e).trans e.symm
  have one : ∀ (P line col : Nat) (q : Str), isTab P → TabOK P line col q s.heap → TabOK P line col q h' := fun P line col q hP t => by
    rcases t with e | ⟨c', n, e, r⟩
    · exact .inl ((tb P hP).trans e)
    · obtain ⟨c₂, oc, vs, tq, e1, e2, e3, e4⟩ := r
      cases e1
      exact .inr ⟨c', n, (tb P hP).trans e, c', oc, vs, tq, rfl, hk _ _ (fun w => hs.ok.code P _ _ c' hP e (.inr w)) e2, e3, e4⟩
  obtain ⟨m, n, hh⟩ := hs.fr
  have nsk : h'.Ns F.env.locals m := let ⟨o, es, ep, e, r⟩ := n; ⟨o, es, ep, hk _ _ hL e, r⟩
  have live : ∀ a o, s.heap.get? a = some o → ∃ o', h'.get? a = some o' := fun a o e => by
    by_cases hw : wr a
    · exact hl a hw
    · exact ⟨o, hk a o hw e⟩
  refine ⟨⟨fun a o e => hk a o (hB a o e) (hs.ok.keep a o e), hs.ok.hb, ⟨one _ _ _ _ (.inl rfl) hs.ok.tabs.t1, one _ _ _ _ (.inr rfl) hs.ok.tabs.t2⟩, hs.ok.gens, hs.ok.os, fun a ha => ?_, hs.ok.tab, fun P l1 l2 c' hP e => hs.ok.code P l1 l2 c' hP ((tb P hP).symm.trans e)⟩,
    fun a o e => hk a o (hK a o e) (hs.kept a o e), hs.since.trans ⟨live, fun P hP => .inl (tb P hP)⟩, fun x c e => let ⟨v, o, e1, e2⟩ := hs.cells x c e; ⟨v, o, hk _ _ (hC x c e) e1, e2⟩, m, nsk, fun p hp => (hh p hp).mono (F := F.grow wr) rfl (fun a o v => ⟨v.1, hk _ _ (fun w => v.1 (.inr w)) v.2⟩) (fun a ob w _ e => ⟨w, hk _ _ (hO a w) e⟩) fun c v e1 e2 => let ⟨o, e3, e4⟩ := e2; ⟨o, hk _ _ (hC _ c e1) e3, e4⟩⟩
  obtain ⟨o, e⟩ := hs.ok.live a ha
  exact live a o e
end
noncomputable def KeepBut (wr : Addr → Prop) (h h' : Heap) : Prop := ∀ a o, ¬ wr a → h.get? a = some o → h'.get? a = some o
structure Src (prog : Program) (C : Base) (A : Around) (target : Expr) (I : Addr) (ds : List D) (wr rd : Addr → Prop) (Sx : Nat → Heap → Prop) : Prop where
  frame : ∀ i h h', Sx i h → (∀ a o, (wr a ∨ rd a) → h.get? a = some o → h'.get? a = some o) → Sx i h'
  live : ∀ i h, Sx i h → ∀ a, wr a ∨ rd a → ∃ o, h.get? a = some o
  item : ∀ i d (s : Shared) (Mu : Addr → Prop) (Q : Value → Shared → Prop) (E : Value → Shared → Prop), ds[i]? = some d → Sx i s.heap → (∀ a, rd a → ¬ Mu a) → (∀ a, Mu a → ∃ o, s.heap.get? a = some o) →
    (∀ v h₂ tk, KeepBut wr s.heap h₂ → Sx (i + 1) h₂ → Rep (vis (fun a => Mu a ∨ wr a) h₂) v d → Q v { s with heap := h₂, toks := tk }) →
    wpAny (model prog C.w) A (pyNext (.ref I)) (fun r s₁ => ∃ v, r = some v ∧ wpAny (model prog C.w) A (letOwnedTupleGo target (.ref I) v) (fun _ s₂ => Q v s₂) E s₁) E s
  done : ∀ (s : Shared) (Q : Option Value → Shared → Prop) (E : Value → Shared → Prop), Sx ds.length s.heap →
    (∀ h₂ tk, KeepBut wr s.heap h₂ → Q none { s with heap := h₂, toks := tk }) → wpAny (model prog C.w) A (pyNext (.ref I)) Q E s
  self : ∀ i (s : Shared) (Q : Value → Shared → Prop) (E : Value → Shared → Prop), Sx i s.heap → Q (.ref I) s → wpAny (model prog C.w) A (pyIter (.ref I)) Q E s
@[irreducible] noncomputable def SrcE (C : Base) (k : Nat) (F : Fn) (ρ : Rho) (iter target : Expr) (ds : List D) : Prop :=
  ∀ (prog : Program) (A : Around) (s : Shared) (Q : Value → Shared → Prop) (E : Value → Shared → Prop), Rm k A → St C F ρ s →
    (∀ I s' wr rd Sx, Src prog C A target I ds wr rd Sx → (∀ a, rd a → ¬ F.Mu a) → Step s s' → (∀ a, wr a → s.heap.get? a = none) → (∀ a, wr a → ∀ q, ¬ s'.heap.CodeRec (.ref a) q) → Sx 0 s'.heap → Q (.ref I) s') →
    wpAny (model prog C.w) A (eval iter F.env) (fun x s₁ => wpAny (model prog C.w) A (pyIter x) Q E s₁) E s
theorem SrcE.mk {C : Base} {k : Nat} {F : Fn} {ρ : Rho} {iter target : Expr} {ds : List D} (h : ∀ (prog : Program) (A : Around) (s : Shared) (Q : Value → Shared → Prop) (E : Value → Shared → Prop), Rm k A → St C F ρ s →
    (∀ I s' wr rd Sx, Src prog C A target I ds wr rd Sx → (∀ a, rd a → ¬ F.Mu a) → Step s s' → (∀ a, wr a → s.heap.get? a = none) → (∀ a, wr a → ∀ q, ¬ s'.heap.CodeRec (.ref a) q) → Sx 0 s'.heap → Q (.ref I) s') →
    wpAny (model prog C.w) A (eval iter F.env) (fun x s₁ => wpAny (model prog C.w) A (pyIter x) Q E s₁) E s) : SrcE C k F ρ iter target ds := by unfold SrcE; exact h
theorem SrcE.run {C : Base} {k : Nat} {F : Fn} {ρ : Rho} {iter target : Expr} {ds : List D} (h : SrcE C k F ρ iter target ds) : ∀ (prog : Program) (A : Around) (s : Shared) (Q : Value → Shared → Prop) (E : Value → Shared → Prop), Rm k A → St C F ρ s →
    (∀ I s' wr rd Sx, Src prog C A target I ds wr rd Sx → (∀ a, rd a → ¬ F.Mu a) → Step s s' → (∀ a, wr a → s.heap.get? a = none) → (∀ a, wr a → ∀ q, ¬ s'.heap.CodeRec (.ref a) q) → Sx 0 s'.heap → Q (.ref I) s') →
    wpAny (model prog C.w) A (eval iter F.env) (fun x s₁ => wpAny (model prog C.w) A (pyIter x) Q E s₁) E s := by unfold SrcE at h; exact h
@[irreducible] noncomputable def Asg (C : Base) (k : Nat) (F : Fn) (ρ : Rho) (target : Expr) (d : D) (ρ' : Rho) : Prop :=
  ∀ (prog : Program) (A : Around) (s : Shared) (v : Value) (Q : Unit → Shared → Prop) (E : Value → Shared → Prop), Rm k A → St C F ρ s → Rep (vis F.Mu s.heap) v d → (∀ s', St C F ρ' s' → Q () s') → wpAny (model prog C.w) A (assign target F.env v) Q E s
theorem Asg.run {C : Base} {k : Nat} {F : Fn} {ρ ρ' : Rho} {target : Expr} {d : D} (h : Asg C k F ρ target d ρ') : ∀ (prog : Program) (A : Around) (s : Shared) (v : Value) (Q : Unit → Shared → Prop) (E : Value → Shared → Prop), Rm k A → St C F ρ s → Rep (vis F.Mu s.heap) v d → (∀ s', St C F ρ' s' → Q () s') → wpAny (model prog C.w) A (assign target F.env v) Q E s := by
  unfold Asg at h; exact h
section
variable {C : Base} {k : Nat} {F : Fn} {ρ : Rho}
theorem Asg.name (H : FOK F) {x : Str} {px : Pos} {d : D} (hl : F.env.kindOf x = some .local) (hx : ∀ p ∈ ρ, p.1 ≠ x) : Asg C k F ρ (.Name x px) d ((x, d) :: ρ) := by
  unfold Asg
  intro prog A s v Q E hA hs hr hQ
  exact wpAny_assign_Name (St.store H hs hl hr hx hQ)
theorem Asg.cell (H : FOK F) {x : Str} {c : Addr} {px : Pos} {d : D} (K : CellOK F x c) (hx : ∀ p ∈ ρ, p.1 ≠ x) : Asg C k F ρ (.Name x px) d ((x, d) :: ρ) := by
  unfold Asg
  intro prog A s v Q E hA hs hr hQ
  exact wpAny_assign_Name (St.storeC H K hs hr hx hQ)
inductive AsgL (C : Base) (k : Nat) (F : Fn) : Rho → List Expr → List D → Rho → Prop
  | nil {ρ : Rho} : AsgL C k F ρ [] [] ρ
  | cons {ρ ρ₁ ρ₂ : Rho} {t : Expr} {ts : List Expr} {d : D} {ds : List D} : (∀ F₂, Like F F₂ → Asg C k F₂ ρ t d ρ₁) → assignEach (t :: ts) F.env = (false, assign t F.env) :: assignEach ts F.env → AsgL C k F ρ₁ ts ds ρ₂ → AsgL C k F ρ (t :: ts) (d :: ds) ρ₂
theorem vis_base (H : FOK F) {ρ' : Rho} {s s' : Shared} (h : St C (F.base s.heap) ρ' s') (ht : ∀ a, isTab a → F.Mu a) : ∀ a o, vis F.Mu s.heap a o → vis F.Mu s'.heap a o :=
  fun a o v => ⟨v.1, h.kept a o ⟨fun t => v.1 (ht a t), fun w => v.1 (H.ownMu a w), v.2⟩⟩
theorem AsgL.run (H : FOK F) {ρ ρ' : Rho} {ts : List Expr} {ds : List D} (L : AsgL C k F ρ ts ds ρ') : ∀ {prog : Program} {A : Around} {s : Shared} {vs : List Value} {Q : Unit → Shared → Prop} {E : Value → Shared → Prop}, Rm k A → St C F ρ s → RepL (vis F.Mu s.heap) vs ds →
    (∀ s', St C F ρ' s' → Q () s') → wpAny (model prog C.w) A (assignInOrder ((assignEach ts F.env).map (·.2)) vs) Q E s := by
  induction L with
  | nil => intro prog A s vs Q E hA hs hr hQ; rw [hr.nil_i]; exact wpAny_pure (hQ s hs)
  | @cons ρ ρ₁ ρ₂ t ts d ds h1 h2 L ih =>
    intro prog A s vs Q E hA hs hr hQ
    obtain ⟨v, ws, rfl, a, b⟩ := hr.cons_i
    rw [h2]
    refine assignInOrder_cons ((h1 _ (Like.base H s.heap)).run _ _ _ _ _ _ hA hs.base a fun s₁ h₁ => ?_)
    exact ih hA (St.unbase H hs h₁) (b.mono (vis_base H h₁ hs.ok.tab)) hQ
theorem AsgL.length {ρ ρ' : Rho} {ts : List Expr} {ds : List D} (L : AsgL C k F ρ ts ds ρ') : (assignEach ts F.env).length = ds.length ∧ (assignEach ts F.env).findIdx? (·.1) = none := by
  induction L with
  | nil => exact ⟨rfl, rfl⟩
  | cons h1 h2 L ih => rw [h2]; exact ⟨by simp [ih.1], by rw [List.findIdx?_cons]; simp [ih.2]⟩
theorem Asg.tup (H : FOK F) {ρ ρ' : Rho} {ts : List Expr} {n : Nat} {pos : Pos} {ds : List D} (L : AsgL C k F ρ ts ds ρ') : Asg C k F ρ (.Tuple ts n pos) (.tup ds) ρ' := by
  unfold Asg
  intro prog A s v Q E hA hs hr hQ
  obtain ⟨a, m, vs, rfl, x, y⟩ := hr.tup_i
  have hl := y.length
  refine wpAny_assign_Tuple hA.1 (items := vs.toArray) ⟨_, x.2, rfl, _, rfl⟩ (by rw [L.length.1, List.size_toArray, hl]) L.length.2 fun h' he => ?_
  have st : Step s { s with heap := h', toks := s.toks } := Step.of fun b o e => he b o (Nat.ne_of_lt (Heap.lt_size e)) e
  exact L.run H hA (hs.step st H.nt) (y.mono (hs.ok.vis st)) hQ
noncomputable def Turn (C : Base) (F : Fn) (ρn ρb : Rho) (dr : D) : Flow → Shared → Prop := fun f s => match f with
  | .next | .cont => St C F ρn s
  | .brk => St C F ρb s
  | .ret v => St C F [] s ∧ Rep (vis F.Mu s.heap) v dr
theorem my_forLoop {prog : Program} {w : World} {A : Around} {R : Result → Shared → Prop} {target : Expr} {it : Value} {body : List Stmt} {env : Env} (I : Nat → Shared → Prop)
    (turn : ∀ n s, I n s → wpAny (model prog w) A (pyNext it) (fun r s₁ => match r with
      | none => R (.ok .next) s₁
      | some v => wpAny (model prog w) A (letOwnedTupleGo target it v) (fun _ s₁' => wpAny (model prog w) A (assign target env v) (fun _ s₂ => wpAny (model prog w) A (execs body env) (fun f s₃ => match f with
          | .next | .cont => ∃ m, m < n ∧ I m s₃
          | .brk => R (.ok .next) s₃
          | .ret v => R (.ok (.ret v)) s₃) NoE s₂) NoE s₁') NoE s₁) NoE s)
    {s : Shared} (n : Nat) (h : I n s) : codeAny (model prog w) A (.forLoop target it body [] env) R s := by
  refine codeAny_loop' rfl I (fun n s hI => ?_) n h
  show wpAny _ A ((forTurn target it body [] env).onRaise (fun x => do noteFrame x env; theTreesLotGoes x)) _ _ s
  refine wpAny_noted (wpAny_noRaise ?_)
  simp only [forTurn]
  refine wpAny_bind (wpAny_standAt (wpAny_bind (wpAny_onRaise (wpAny_mono (turn n s hI) (fun r s₁ h₁ => ?_) fun _ _ h' => h'.elim))))
  cases r with
  | none => exact wpAny_pure (.inr ⟨rfl, codeAny_block (wpAny_execs_nil h₁)⟩)
  | some v =>
    refine wpAny_bind (wpAny_mono h₁ (fun _ s₁' h₁' => ?_) fun _ _ h' => h')
    refine wpAny_bind (wpAny_mono h₁' (fun _ s₂ h₂ => wpAny_bind (wpAny_mono h₂ (fun f s₃ h₃ => ?_) fun _ _ h' => h')) fun _ _ h' => h')
    cases f with
    | next => exact wpAny_pure (.inl ⟨rfl, h₃⟩)
    | cont => exact wpAny_pure (.inl ⟨rfl, h₃⟩)
    | brk => exact wpAny_pure h₃
    | ret v => exact wpAny_pure h₃
structure WrOK (C : Base) (F : Fn) (wr : Addr → Prop) : Prop where
  tab : ∀ a, wr a → ¬ isTab a
  kp : ∀ a o, F.Kp a o → ¬ wr a
  l : ¬ wr F.env.locals
  cells : ∀ x c, F.env.cells.lookup x = some c → ¬ wr c
  hb : ∀ a o, C.hb.get? a = some o → ¬ wr a
  own : ∀ a, F.own a → ¬ wr a
  mu : ∀ a, F.Mu a → ¬ wr a
  h0 : ∀ a o, F.h₀.get? a = some o → ¬ wr a
theorem WrOK.of (H : FOK F) {s : Shared} {wr : Addr → Prop} (hs : St C F ρ s) (hf : ∀ a, wr a → s.heap.get? a = none) : WrOK C F wr where
  tab := fun a w t => by obtain ⟨o, e⟩ := tab_live hs.ok.tabs a t; rw [hf a w] at e; cases e
  kp := fun a o e w => by have := hs.kept a o e; rw [hf a w] at this; cases this
  l := fun w => by obtain ⟨m, ⟨o, _, _, e, _⟩, _⟩ := hs.fr; rw [hf _ w] at e; cases e
  cells := fun x c e w => by obtain ⟨v, o, e1, _⟩ := hs.cells x c e; rw [hf _ w] at e1; cases e1
  hb := fun a o e w => by have := hs.ok.keep a o e; rw [hf a w] at this; cases this
  own := fun a h w => by obtain ⟨o, e⟩ := hs.ok.live a (H.ownMu a h); rw [hf a w] at e; cases e
  mu := fun a h w => by obtain ⟨o, e⟩ := hs.ok.live a h; rw [hf a w] at e; cases e
  h0 := fun a o h w => by obtain ⟨o, e⟩ := hs.since.live a o h; rw [hf a w] at e; cases e
theorem St.leave {s : Shared} {wr : Addr → Prop} {h' : Heap} {tk : Nat} (hs : St C (F.grow wr) ρ s) (W : WrOK C F wr) (ht : ∀ a, isTab a → F.Mu a) (hk : KeepBut wr s.heap h') : St C F ρ { s with heap := h', toks := tk } := by
  have tb : ∀ P, isTab P → h'.get? P = s.heap.get? P := fun P hP => by
    obtain ⟨o, e⟩ := tab_live hs.ok.tabs P hP
    exact (hk _ _ (fun w => W.tab P w hP) e).trans e.symm
  have one : ∀ (P line col : Nat) (q : Str), isTab P → TabOK P line col q s.heap → TabOK P line col q h' := fun P line col q hP t => by
    rcases t with e | ⟨c', n, e, r⟩
    · exact .inl ((tb P hP).trans e)
    · obtain ⟨c₂, oc, vs, tq, e1, e2, e3, e4⟩ := r
      cases e1
      exact .inr ⟨c', n, (tb P hP).trans e, c', oc, vs, tq, rfl, hk _ _ (fun w => hs.ok.code P _ _ c' hP e (.inr w)) e2, e3, e4⟩
  obtain ⟨m, n, hh⟩ := hs.fr
  have nsk : h'.Ns F.env.locals m := let ⟨o, es, ep, e, r⟩ := n; ⟨o, es, ep, hk _ _ W.l e, r⟩
  refine ⟨⟨fun a o e => hk a o (W.hb a o e) (hs.ok.keep a o e), fun a o e hm => hs.ok.hb a o e (.inl hm), ⟨one _ _ _ _ (.inl rfl) hs.ok.tabs.t1, one _ _ _ _ (.inr rfl) hs.ok.tabs.t2⟩, hs.ok.gens, hs.ok.os, fun a ha => ?_, ht, fun P l1 l2 c' hP e hm => hs.ok.code P l1 l2 c' hP ((tb P hP).symm.trans e) (.inl hm)⟩,
    fun a o e => hk a o (W.kp a o e) (hs.kept a o e), ⟨fun a o e => ?_, fun P hP => ?_⟩, fun x c e => let ⟨v, o, e1, e2⟩ := hs.cells x c e; ⟨v, o, hk _ _ (W.cells x c e) e1, e2⟩, m, nsk, fun p hp => (hh p hp).mono (F := F.grow wr) rfl (fun a o v => ⟨fun hm => v.1 (.inl hm), hk _ _ (fun w => v.1 (.inr w)) v.2⟩) (fun a ob w _ e => ⟨w, hk _ _ (W.own a w) e⟩) fun c v e1 e2 => let ⟨o, e3, e4⟩ := e2; ⟨o, hk _ _ (W.cells _ c e1) e3, e4⟩⟩
  · obtain ⟨o, e⟩ := hs.ok.live a (.inl ha)
    exact ⟨o, hk _ _ (W.mu a ha) e⟩
  · obtain ⟨o', e'⟩ := hs.since.live a o e
    exact ⟨o', hk _ _ (W.h0 a o e) e'⟩
  · rcases hs.since.tabc P hP with e | ⟨l1, l2, c', n, f, e⟩
    · exact .inl ((tb P hP).trans e)
    · exact .inr ⟨l1, l2, c', n, f, (tb P hP).trans e⟩
theorem Src.turn (H : FOK F) {prog : Program} {A : Around} {target : Expr} {I : Addr} {ds : List D} {wr rd : Addr → Prop} {Sx : Nat → Heap → Prop} (S : Src prog C A target I ds wr rd Sx) (hrd : ∀ a, rd a → ¬ F.Mu a) (W : WrOK C F wr)
    {ρ ρt : Rho} {i : Nat} {d : D} {s : Shared} {Q : Shared → Prop} (hA : Rm k A) (hi : ds[i]? = some d) (hs : St C (F.grow wr) ρ s) (hx : Sx i s.heap) (ha : ∀ F₂, Like F F₂ → Asg C k F₂ ρ target d ρt)
    (hQ : ∀ s₃, St C (F.grow wr) ρt s₃ → Sx (i + 1) s₃.heap → (∀ a o, ¬ isTab a → ¬ F.own a → ¬ wr a → s.heap.get? a = some o → s₃.heap.get? a = some o) → Q s₃) :
    wpAny (model prog C.w) A (pyNext (.ref I)) (fun r s₁ => ∃ v, r = some v ∧ wpAny (model prog C.w) A (letOwnedTupleGo target (.ref I) v) (fun _ s₂ => wpAny (model prog C.w) A (assign target F.env v) (fun _ s₃ => Q s₃) NoE s₂) NoE s₁) NoE s := by
  have H₁ := (Like.grow H wr).fok
  refine S.item i d s F.Mu _ _ hi hx hrd (fun a ha => hs.ok.live a (.inl ha)) fun v h₂ tk hk hx₂ hr => ?_
  have hs₂ := hs.atWr hk (fun a w => S.live _ _ hx₂ a (.inl w)) W.tab W.kp W.l W.cells W.hb W.own (tk := tk)
  refine ((ha _ ((Like.grow H wr).trans (Like.base H₁ h₂))).run _ _ _ _ _ _ hA hs₂.base hr fun s₃ h₃ => ?_)
  refine hQ s₃ (St.unbase H₁ hs₂ h₃) (S.frame _ _ _ hx₂ fun a o hm e => ?_) fun a o h1 h2 h3 e => h₃.kept a o ⟨h1, h2, hk a o h3 e⟩
  refine h₃.kept a o ⟨fun t => ?_, fun w => ?_, e⟩
  · rcases hm with hm | hm
    · exact W.tab a hm t
    · exact hrd a hm (by have := hs.ok.tab a t; exact this.elim id fun w => absurd t (W.tab a w))
  · rcases hm with hm | hm
    · exact W.own a w hm
    · exact hrd a hm (H.ownMu a w)
noncomputable def TurnI (C : Base) (F : Fn) (I : Prop) (ρn : Rho) (Bk : Rho → Prop) (Rt : D → Prop) : Flow → Shared → Prop := fun f s => match f with
  | .next | .cont => I ∧ St C F ρn s
  | .brk => ∃ ρ', Bk ρ' ∧ St C F ρ' s
  | .ret v => ∃ dr, Rt dr ∧ St C F [] s ∧ Rep (vis F.Mu s.heap) v dr
theorem XS.forI (H : FOK F) {prog : Program} {A : Around} {Q : Flow → Shared → Prop} {E : Value → Shared → Prop} {rest body : List Stmt} {target iter : Expr} {pos : Pos} {ds : List D} {ρs : Nat → Rho} (I : Nat → Prop) (Bk : Rho → Prop) (Rt : D → Prop) (hA : Rm k A)
    (hsrc : SrcE C k F ρ iter target ds) (h0 : ∀ p ∈ ρs 0, p ∈ ρ) (hI : I 0)
    (hbody : ∀ i d, ds[i]? = some d → I i → ∃ ρt, (∀ F₂, Like F F₂ → Asg C k F₂ (ρs i) target d ρt) ∧ ∀ F₂, Like F F₂ → XS prog C A F₂ ρt body (TurnI C F₂ (I (i + 1)) (ρs (i + 1)) Bk Rt) NoE)
    (hq : ∀ dr v s, Rt dr → St C F [] s → Rep (vis F.Mu s.heap) v dr → Q (.ret v) s) (hbrk : ∀ ρ', Bk ρ' → XS prog C A F ρ' rest Q E) (hrest : I ds.length → XS prog C A F (ρs ds.length) rest Q E)
    (hs : ∀ x, foldedSetIterable iter F.env x = pure x := by intro _; rfl) : XS prog C A F ρ (.For target iter body [] pos :: rest) Q E := by
  intro s h
  refine wpAny_execs_cons (wpAny_For (hsrc.run _ _ _ _ _ hA h fun J s₁ wr rd Sx S hrd y hf hc hx => ?_) hs)
  have W : WrOK C F wr := WrOK.of H h hf
  have H₁ := (Like.grow H wr).fok
  have tb := h.ok.tab
  have start : St C (F.grow wr) (ρs 0) s₁ := (h.weaken h0).ingrow H y hf (fun a w => S.live _ _ hx a (.inl w)) hc
  have fin : ∀ ρ₂ s₂, St C (F.grow wr) ρ₂ s₂ → St C F ρ₂ s₂ := fun ρ₂ s₂ h₂ => h₂.ungrow tb
  refine my_forLoop (fun n s' => ∃ i, n = ds.length - i ∧ i ≤ ds.length ∧ I i ∧ St C (F.grow wr) (ρs i) s' ∧ Sx i s'.heap) ?_ _ ⟨0, rfl, Nat.zero_le _, hI, start, hx⟩
  rintro n s' ⟨i, rfl, hi, hIi, hs', hx'⟩
  cases hd : ds[i]? with
  | none =>
    have e : i = ds.length := Nat.le_antisymm hi (by simpa using hd)
    subst e
    refine S.done s' _ _ hx' fun h₂ tk hk => ?_
    exact hrest hIi _ (hs'.leave W tb hk (tk := tk))
  | some d =>
    have hlt : i < ds.length := (List.getElem?_eq_some_iff.mp hd).1
    obtain ⟨ρt, ha, hb⟩ := hbody i d hd hIi
    refine wpAny_mono (S.turn H hrd W hA hd hs' hx' ha (Q := fun s₃ => wpAny (model prog C.w) A (execs body F.env) (fun f s₄ => match f with
          | .next | .cont => ∃ m, m < ds.length - i ∧ ∃ j, m = ds.length - j ∧ j ≤ ds.length ∧ I j ∧ St C (F.grow wr) (ρs j) s₄ ∧ Sx j s₄.heap
          | .brk => wpAny (model prog C.w) A (execs rest F.env) Q E s₄
          | .ret v => Q (.ret v) s₄) NoE s₃) fun s₃ h₃ hx₃ _ => ?_) (fun r s₁ q => ?_) fun _ _ q => q
    · refine wpAny_mono ((hb _ ((Like.grow H wr).trans (Like.base H₁ s₃.heap))) s₃ h₃.base) (fun f s₄ q => ?_) fun _ _ q => q
      have up : ∀ ρ₂, St C ((F.grow wr).base s₃.heap) ρ₂ s₄ → St C (F.grow wr) ρ₂ s₄ ∧ Sx (i + 1) s₄.heap := fun ρ₂ h₄ => ⟨St.unbase H₁ h₃ h₄, S.frame _ _ _ hx₃ fun a o hm e => h₄.kept a o ⟨fun t => by
          rcases hm with hm | hm
          · exact W.tab a hm t
          · exact hrd a hm (tb a t), fun w => by
          rcases hm with hm | hm
          · exact W.own a w hm
          · exact hrd a hm (H.ownMu a w), e⟩⟩
      cases f with
      | next => exact ⟨_, by omega, i + 1, rfl, hlt, q.1, (up _ q.2).1, (up _ q.2).2⟩
      | cont => exact ⟨_, by omega, i + 1, rfl, hlt, q.1, (up _ q.2).1, (up _ q.2).2⟩
      | brk => obtain ⟨ρ', hb', q⟩ := q; exact hbrk ρ' hb' _ (fin _ _ (up _ q).1)
      | ret v => obtain ⟨dr, hr, q, r⟩ := q; exact hq dr v s₄ hr (fin _ _ (up _ q).1) (r.mono fun a o v => ⟨fun hm => v.1 (.inl hm), v.2⟩)
    · obtain ⟨v, rfl, q⟩ := q
      exact q
theorem XS.for (H : FOK F) {prog : Program} {A : Around} {Q : Flow → Shared → Prop} {E : Value → Shared → Prop} {rest body : List Stmt} {target iter : Expr} {pos : Pos} {ds : List D} {ρs : Nat → Rho} {ρ' : Rho} {dr : D} (hA : Rm k A)
    (hsrc : SrcE C k F ρ iter target ds) (h0 : ∀ p ∈ ρs 0, p ∈ ρ)
    (hbody : ∀ i d, ds[i]? = some d → ∃ ρt, (∀ F₂, Like F F₂ → Asg C k F₂ (ρs i) target d ρt) ∧ ∀ F₂, Like F F₂ → XS prog C A F₂ ρt body (Turn C F₂ (ρs (i + 1)) ρ' dr) NoE)
    (hend : ∀ p ∈ ρ', p ∈ ρs ds.length) (hq : ∀ v s, St C F [] s → Rep (vis F.Mu s.heap) v dr → Q (.ret v) s) (hrest : XS prog C A F ρ' rest Q E)
    (hs : ∀ x, foldedSetIterable iter F.env x = pure x := by intro _; rfl) : XS prog C A F ρ (.For target iter body [] pos :: rest) Q E := by
  refine XS.forI H (fun _ => True) (fun ρ => ρ = ρ') (fun d => d = dr) hA hsrc h0 trivial (fun i d hd _ => ?_) (fun _ v s e a b => hq v s a (e ▸ b)) (fun _ e => e ▸ hrest) (fun _ s hs => hrest s (hs.weaken hend)) hs
  obtain ⟨ρt, ha, hb⟩ := hbody i d hd
  refine ⟨ρt, ha, fun F₂ L s hs => wpAny_mono (hb F₂ L s hs) (fun f s' q => ?_) fun _ _ q => q⟩
  cases f with
  | next => exact ⟨trivial, q⟩
  | cont => exact ⟨trivial, q⟩
  | brk => exact ⟨_, rfl, q⟩
  | ret v => exact ⟨_, rfl, q⟩
end
theorem Src.ofWalks {prog : Program} {C : Base} {A : Around} {Mu : Addr → Prop} {target : Expr} {I : Addr} {ds : List D} {n : Nat} {fp wr : List Addr} {P : Nat → Value → Prop} {Sx : Nat → Heap → Prop} (W : Walks prog C.w A I fp wr n P Sx) (hn : n = ds.length) (h0 : Heap)
    (hfp : ∀ b ∈ fp, b ∈ wr ∨ ∃ o, vis Mu h0 b o) (hnew : ∀ b ∈ wr, h0.get? b = none) (hlive : ∀ i h, Sx i h → ∀ b ∈ wr, ∃ o, h.get? b = some o)
    (hgo : ∀ i v (s : Shared) (Q : Unit → Shared → Prop) (E : Value → Shared → Prop), Sx i s.heap → Q () s → wpAny (model prog C.w) A (letOwnedTupleGo target (.ref I) v) Q E s)
    (hval : ∀ i v d, P i v → ds[i]? = some d → Rep (vis Mu h0) v d) :
    Src prog C A target I ds (· ∈ wr) (fun a => ∃ o, vis Mu h0 a o) (fun i h => Sx i h ∧ ∀ a o, vis Mu h0 a o → h.get? a = some o) where
  frame := fun i h h' x hk => ⟨W.frame i h h' x.1 fun b hb o e => hk b o (hfp b hb) e, fun a o v => hk a o (.inr ⟨o, v⟩) (x.2 a o v)⟩
  live := fun i h x a ha => ha.elim (hlive i h x.1 a) fun ⟨o, v⟩ => ⟨o, x.2 a o v⟩
  item := fun i d s Mu' Q E hi x hr hm hQ => by
    refine W.item i s _ _ (by rw [hn]; exact (List.getElem?_eq_some_iff.mp hi).1) x.1 fun v h' tk hp hs hk => ?_
    have kp : ∀ a o, vis Mu h0 a o → ¬ a ∈ wr ∧ h'.get? a = some o := fun a o v => by
      have : ¬ a ∈ wr := fun hw => by have := v.2; rw [hnew a hw] at this; cases this
      exact ⟨this, hk a o this (x.2 a o v)⟩
    refine ⟨v, rfl, hgo (i + 1) v _ _ _ hs (hQ v h' tk (fun a o hw e => hk a o hw e) ⟨hs, fun a o v => (kp a o v).2⟩ ?_)⟩
    exact (hval i v d hp hi).mono fun a o v => ⟨fun hm => hm.elim (hr a ⟨o, v⟩) (kp a o v).1, (kp a o v).2⟩
  done := fun s Q E x hQ => W.done s Q E (by rw [hn]; exact x.1) fun h' tk hk => hQ h' tk fun a o hw e => hk a o hw e
  self := fun i s Q E x hQ => W.self i s Q E x.1 hQ
theorem fresh_none (h : Heap) : h.get? h.objs.size = none := by
  cases q : h.get? h.objs.size with
  | none => rfl
  | some o => exact absurd (Heap.lt_size q) (Nat.lt_irrefl _)
theorem none_of_le {h : Heap} {a : Addr} (hl : h.objs.size ≤ a) : h.get? a = none := by
  cases q : h.get? a with
  | none => rfl
  | some o => exact absurd (Heap.lt_size q) (Nat.not_lt.mpr hl)
theorem Step.none_of {s s' : Shared} (y : Step s s') (t : TabsOK s.heap) {a : Addr} (h : s'.heap.get? a = none) : s.heap.get? a = none := by
  cases q : s.heap.get? a with
  | none => rfl
  | some o =>
    by_cases ht : isTab a
    · obtain ⟨o', e⟩ := tab_live (y.tabs t).1 a ht
      rw [e] at h; cases h
    · rw [y.keep a o ht q] at h; cases h
section
variable {C : Base} {k : Nat} {F : Fn} {ρ : Rho}
theorem goName {prog : Program} {w : World} {A : Around} {x : Str} {p : Pos} {it v : Value} {s : Shared} {Q : Unit → Shared → Prop} {E : Value → Shared → Prop} (h : Q () s) : wpAny (model prog w) A (letOwnedTupleGo (.Name x p) it v) Q E s := wpAny_pure h
theorem SrcE.list {e target : Expr} {ds : List D} (he : EV C k F ρ e (.list ds)) : SrcE C k F ρ e target ds := by
  refine SrcE.mk ?_
  intro prog A s Q E hA hs hQ
  refine he.run _ _ _ _ _ hA hs fun v s₁ y₁ r => ?_
  obtain ⟨l, n, vs, rfl, x, y⟩ := r.list_i
  refine wpAny_pyIter_list (isList_of x.2) ?_
  have hne : l ≠ s₁.heap.objs.size := Nat.ne_of_lt (Heap.lt_size x.2)
  have hn : s.heap.get? s₁.heap.objs.size = none := y₁.none_of hs.ok.tabs (fresh_none _)
  refine hQ _ _ _ _ _ (Src.ofWalks (Walks.list hA.1 s₁.heap.objs.size l hne vs.toArray) (by rw [List.size_toArray, y.length]) s₁.heap ?_ ?_ ?_ (fun i v s Q E h q => letGo_listiter h.1 q) ?_) (fun a ⟨o, v⟩ => v.1) (y₁.trans Step.push') ?_ ?_ ⟨⟨⟨_, Heap.get?_push_size _ rfl, rfl, rfl⟩, (isList_of x.2).push _⟩, fun a o v => Heap.get?_push_of_some _ v.2⟩
  · intro b hb
    rcases List.mem_cons.mp hb with rfl | hb
    · exact .inl (List.mem_singleton.mpr rfl)
    · rw [List.mem_singleton.mp hb]; exact .inr ⟨_, x⟩
  · intro b hb; rw [List.mem_singleton.mp hb]; exact fresh_none _
  · rintro i h ⟨⟨o, e, _⟩, _⟩ b hb; rw [List.mem_singleton.mp hb]; exact ⟨o, e⟩
  · intro i v d hp hi
    obtain ⟨w, hw, r⟩ := y.get hi
    rw [List.getElem?_toArray, hw] at hp
    cases hp; exact r
  · intro a ha; rw [List.mem_singleton.mp ha]; exact hn
  · intro a ha q; rw [List.mem_singleton.mp ha]; exact notCode (Heap.get?_push_size _ rfl) (fun vs q t e => by cases e; intro h; cases h) q
theorem SrcE.tuple {e target : Expr} {ds : List D} (he : EV C k F ρ e (.tup ds)) : SrcE C k F ρ e target ds := by
  refine SrcE.mk ?_
  intro prog A s Q E hA hs hQ
  refine he.run _ _ _ _ _ hA hs fun v s₁ y₁ r => ?_
  obtain ⟨l, n, vs, rfl, x, y⟩ := r.tup_i
  have ht : s₁.heap.IsTuple l vs.toArray := ⟨_, x.2, rfl, _, rfl⟩
  refine wpAny_pyIter_tuple ht ?_
  have hne : l ≠ s₁.heap.objs.size := Nat.ne_of_lt (Heap.lt_size x.2)
  have hn : s.heap.get? s₁.heap.objs.size = none := y₁.none_of hs.ok.tabs (fresh_none _)
  refine hQ _ _ _ _ _ (Src.ofWalks (Walks.tuple hA.1 s₁.heap.objs.size l hne vs.toArray) (by rw [List.size_toArray, y.length]) s₁.heap ?_ ?_ ?_ (fun i v s Q E h q => letGo_tupleiter h.1 q) ?_) (fun a ⟨o, v⟩ => v.1) (y₁.trans Step.push') ?_ ?_ ⟨⟨⟨_, Heap.get?_push_size _ rfl, rfl, rfl⟩, ht.at fun o e => Heap.get?_push_of_some _ e⟩, fun a o v => Heap.get?_push_of_some _ v.2⟩
  · intro b hb
    rcases List.mem_cons.mp hb with rfl | hb
    · exact .inl (List.mem_singleton.mpr rfl)
    · rw [List.mem_singleton.mp hb]; exact .inr ⟨_, x⟩
  · intro b hb; rw [List.mem_singleton.mp hb]; exact fresh_none _
  · rintro i h ⟨⟨o, e, _⟩, _⟩ b hb; rw [List.mem_singleton.mp hb]; exact ⟨o, e⟩
  · intro i v d hp hi
    obtain ⟨w, hw, r⟩ := y.get hi
    rw [List.getElem?_toArray, hw] at hp
    cases hp; exact r
  · intro a ha; rw [List.mem_singleton.mp ha]; exact hn
  · intro a ha q; rw [List.mem_singleton.mp ha]; exact notCode (Heap.get?_push_size _ rfl) (fun vs q t e => by cases e; intro h; cases h) q
noncomputable def rngL (a c : Int) (n : Nat) : List D := (List.range n).map fun (i : Nat) => D.int (a + (i : Int) * c)
theorem SrcE.range {e : Expr} {x : Str} {px : Pos} {a b c : Int} {n : Nat} (he : EV C k F ρ e (.rng a b c)) (hsm : Builtin.Range.small a b c = true) (hn : Builtin.Range.rangeSize a b c = (n : Int)) : SrcE C k F ρ e (.Name x px) (rngL a c n) := by
  refine SrcE.mk ?_
  intro prog A s Q E hA hs hQ
  refine he.run _ _ _ _ _ hA hs fun v s₁ y₁ r => ?_
  obtain ⟨l, t, u, w, rfl, x⟩ := r.rng_i
  refine wpAny_pyIter_range x.2 hsm ?_
  have hz : s.heap.get? s₁.heap.objs.size = none := y₁.none_of hs.ok.tabs (fresh_none _)
  rw [hn]
  refine hQ _ _ _ _ _ (Src.ofWalks (Walks.range hA.1 s₁.heap.objs.size a c n) (by simp [rngL]) s₁.heap ?_ ?_ ?_ (fun i v s Q E h q => goName q) ?_) (fun a ⟨o, v⟩ => v.1) (y₁.trans Step.push') ?_ ?_ ⟨?_, fun a o v => Heap.get?_push_of_some _ v.2⟩
  · intro b hb; exact .inl hb
  · intro b hb; rw [List.mem_singleton.mp hb]; exact fresh_none _
  · intro i h e b hb; rw [List.mem_singleton.mp hb]; exact ⟨_, e⟩
  · rintro i v d ⟨t, rfl⟩ hi
    have hlt : i < n := by have := (List.getElem?_eq_some_iff.mp hi).1; simpa [rngL] using this
    have : d = .int (a + (i : Int) * c) := by
      rw [rngL, List.getElem?_map, List.getElem?_range hlt] at hi
      exact (Option.some.inj hi).symm
    rw [this]; exact .int _ _
  · intro a ha; rw [List.mem_singleton.mp ha]; exact hz
  · intro a ha q; rw [List.mem_singleton.mp ha]; exact notCode (Heap.get?_push_size _ rfl) (fun vs q t e => by cases e; intro h; cases h) q
  · have : a + ((0 : Nat) : Int) * c = a := by simp
    have e2 : (n : Int) - ((0 : Nat) : Int) = n := by simp
    show IsRangeIter _ _ (a + ((0 : Nat) : Int) * c) ((n : Int) - ((0 : Nat) : Int)) c
    rw [this, e2]
    exact Heap.get?_push_size _ rfl
theorem SrcE.rev (H : FOK F) {p pos px : Pos} {e : Expr} {x : Str} {ds : List D} (hx : F.env.kindOf "reversed" = some .globalImplicit)
    (he : EV C k F ρ e (.list ds)) (hse : starEach [e] F.env = [(false, eval e F.env)] := by rfl) (hp : (backTo pos (starEach [] F.env)).any (·.1) = false := by rfl) : SrcE C k F ρ (.Call (.Name "reversed" p) [e] [] pos) (.Name x px) ds.reverse := by
  refine SrcE.mk ?_
  intro prog A s Q E hA hs hQ
  have hm : ((Str.ofString "reversed" : Str), Value.type "reversed") ∈ biList := by decide
  refine wpAny_Call_NameR (Calls.Name_function_global H.kind hx (Calls.loadGlobal_builtin (hs.mg H) (C.bi _ hm).1 (hs.mb H) (C.bi _ hm).2 ?_) (by decide +kernel))
  refine PyProof.Rows.callWith_type1 ((EVs.cons H he EVs.nil hse).run _ _ _ _ _ _ hA hs fun vs s₁ y₁ rs => ?_) hse hp
  obtain ⟨v, rfl, r⟩ := rs.one
  obtain ⟨l, n, vs, rfl, x, y⟩ := r.list_i
  refine call_reversed_list (isList_of x.2) ?_
  have hne : l ≠ s₁.heap.objs.size := Nat.ne_of_lt (Heap.lt_size x.2)
  have hz : s.heap.get? s₁.heap.objs.size = none := y₁.none_of hs.ok.tabs (fresh_none _)
  have hit : (s₁.heap.push (revObj l ((vs.toArray.size : Int) - 1))).IsRevIter s₁.heap.objs.size l ((vs.toArray.size : Int) - 1 - ((0 : Nat) : Int)) := ⟨_, Heap.get?_push_size _ rfl, rfl, by simp [revObj]⟩
  refine wpAny_pyIter_revIter hit ?_
  refine hQ _ _ _ _ _ (Src.ofWalks (Walks.listRev hA.1 s₁.heap.objs.size l hne vs.toArray) (by rw [List.size_toArray, y.length, List.length_reverse]) s₁.heap ?_ ?_ ?_ (fun i v s Q E h q => goName q) ?_) (fun a ⟨o, v⟩ => v.1) (y₁.trans Step.push') ?_ ?_ ⟨⟨Nat.zero_le _, hit, (isList_of x.2).push _⟩, fun a o v => Heap.get?_push_of_some _ v.2⟩
  · intro b hb
    rcases List.mem_cons.mp hb with rfl | hb
    · exact .inl (List.mem_singleton.mpr rfl)
    · rw [List.mem_singleton.mp hb]; exact .inr ⟨_, x⟩
  · intro b hb; rw [List.mem_singleton.mp hb]; exact fresh_none _
  · rintro i h ⟨_, ⟨o, e, _⟩, _⟩ b hb; rw [List.mem_singleton.mp hb]; exact ⟨o, e⟩
  · intro i v d hp hi
    have hlt := (List.getElem?_eq_some_iff.mp hi).1
    rw [List.length_reverse] at hlt
    rw [List.getElem?_reverse hlt] at hi
    obtain ⟨w, hw, r⟩ := y.get hi
    have e := y.length
    rw [List.size_toArray, e, List.getElem?_toArray] at hp
    have e2 : ds.length - 1 - i = ds.length - 1 - i := rfl
    rw [hw] at hp
    cases hp; exact r
  · intro a ha; rw [List.mem_singleton.mp ha]; exact hz
  · intro a ha q; rw [List.mem_singleton.mp ha]; exact notCode (Heap.get?_push_size _ rfl) (fun vs q t e => by cases e; intro h; cases h) q
end
noncomputable def enumL (ds : List D) : List D := ds.zipIdx.map fun p => .tup [.int (p.2 : Nat), p.1]
noncomputable def zipL (xs ys : List D) : List D := List.zipWith (fun a b => .tup [a, b]) xs ys
theorem Src.enum {prog : Program} {C : Base} {A : Around} {Mu : Addr → Prop} {elts : List Expr} {n : Nat} {pos : Pos} {e it l : Addr} {ds : List D} {vs : List Value} {h0 : Heap} (hh : A.handled = none) (hei : e ≠ it) (hle : l ≠ e) (hli : l ≠ it)
    (he0 : h0.get? e = none) (hi0 : h0.get? it = none) (r : RepL (vis Mu h0) vs ds) (hl : ∃ o, vis Mu h0 l o ∧ o.cls = .type "list" ∧ ∃ n, o.data = .seq vs.toArray n) :
    Src prog C A (.Tuple elts n pos) e (enumL ds) (fun a => a = e ∨ a = it) (fun a => ∃ o, vis Mu h0 a o)
      (fun i h => (∃ old, IsEnum h e it i old) ∧ h.IsListIter it l i ∧ ∀ a o, vis Mu h0 a o → h.get? a = some o) where
  frame := by
    rintro i h h' ⟨⟨old, he⟩, hit, hv⟩ hk
    exact ⟨⟨old, hk e _ (.inl (.inl rfl)) he⟩, hit.at fun o x => hk it o (.inl (.inr rfl)) x, fun a o v => hk a o (.inr ⟨o, v⟩) (hv a o v)⟩
  live := by
    rintro i h ⟨⟨old, he⟩, ⟨o, e2, _⟩, hv⟩ a ((rfl | rfl) | ⟨o, v⟩)
    · exact ⟨_, he⟩
    · exact ⟨_, e2⟩
    · exact ⟨o, hv a o v⟩
  item := by
    rintro i d s Mu' Q E hi ⟨⟨old, he⟩, hit, hv⟩ hrd hm hQ
    obtain ⟨ol, vl, hc, nl, hd⟩ := hl
    have hL : s.heap.IsList l vs.toArray := ⟨ol, hv _ _ vl, hc, nl, hd⟩
    have hlt : i < ds.length := by have := (List.getElem?_eq_some_iff.mp hi).1; simpa [enumL] using this
    obtain ⟨v, hvv, rv⟩ := r.get (List.getElem?_eq_getElem hlt)
    have hd' : d = .tup [.int (i : Nat), ds[i]] := by
      rw [enumL, List.getElem?_map, List.getElem?_zipIdx, List.getElem?_eq_getElem hlt] at hi
      have := (Option.some.inj hi).symm
      simpa using this
    have helt : e < s.heap.objs.size := Heap.lt_size he
    have hilt : it < s.heap.objs.size := by obtain ⟨_, x, _⟩ := hit; exact Heap.lt_size x
    refine wpAny_pyNext_enum_item he hit hL (x := v) (by rw [List.getElem?_toArray]; exact hvv) hei fun h' ho hit' hT hsz hk => ?_
    refine ⟨_, rfl, wpAny_letOwnedTupleGo_enum ho fun h₂ he₂ hs₂ => ?_⟩
    have kp : ∀ a o, ¬ (a = e ∨ a = it) → s.heap.get? a = some o → h₂.get? a = some o := fun a o hw x => hs₂.extBut a o (fun q => hw (.inl q)) (hk a o (fun q => hw (.inl q)) (fun q => hw (.inr q)) x)
    have nw : ∀ a o, vis Mu h0 a o → ¬ (a = e ∨ a = it) := by
      rintro a o v (rfl | rfl)
      · have := v.2; rw [he0] at this; cases this
      · have := v.2; rw [hi0] at this; cases this
    refine hQ _ h₂ (s.toks + 1) (fun a o hw x => kp a o hw x) ⟨⟨_, he₂⟩, hit'.at fun o x => hs₂.extBut _ o hei.symm x, fun a o v => kp a o (nw a o v) (hv a o v)⟩ ?_
    rw [hd']
    have hTm : ¬ (Mu' s.heap.objs.size ∨ s.heap.objs.size = e ∨ s.heap.objs.size = it) := by
      rintro (h | rfl | rfl)
      · obtain ⟨o, x⟩ := hm _ h; exact absurd (Heap.lt_size x) (Nat.lt_irrefl _)
      · exact absurd helt (Nat.lt_irrefl _)
      · exact absurd hilt (Nat.lt_irrefl _)
    refine .tup (vs := [_, _]) (n := 0) ⟨hTm, hs₂.extBut _ _ (fun q => hTm (.inr (.inl q))) hT⟩ (.cons (.int _ _) (.cons (rv.mono fun a o v => ⟨fun h => h.elim (hrd a ⟨o, v⟩) (nw a o v), kp a o (nw a o v) (hv a o v)⟩) .nil))
  done := by
    rintro s Q E ⟨⟨old, he⟩, hit, hv⟩ hQ
    obtain ⟨ol, vl, hc, nl, hd⟩ := hl
    have hlen : (enumL ds).length = vs.length := by rw [r.length]; simp [enumL]
    exact wpAny_pyNext_enum_end hh he hit ⟨ol, hv _ _ vl, hc, nl, hd⟩ (by rw [List.getElem?_toArray, hlen]; simp) fun h' hx => hQ h' s.toks fun b o hb y => hx b o (fun e' => hb (.inr e')) y
  self := fun i s Q E ⟨⟨old, he⟩, _, _⟩ hQ => wpAny_pyIter_enum he hQ
theorem Src.zip {prog : Program} {C : Base} {A : Around} {Mu : Addr → Prop} {elts : List Expr} {n : Nat} {pos : Pos} {z TI TO i1 i2 l1 l2 : Addr} {ds es : List D} {vs us : List Value} {h0 : Heap} (hh : A.handled = none) (D : ZipApart z TI TO i1 i2 l1 l2)
    (hn : ∀ a, a = z ∨ a = TI ∨ a = TO ∨ a = i1 ∨ a = i2 → h0.get? a = none) (r1 : RepL (vis Mu h0) vs ds) (r2 : RepL (vis Mu h0) us es)
    (hl1 : ∃ o, vis Mu h0 l1 o ∧ o.cls = .type "list" ∧ ∃ n, o.data = .seq vs.toArray n) (hl2 : ∃ o, vis Mu h0 l2 o ∧ o.cls = .type "list" ∧ ∃ n, o.data = .seq us.toArray n) :
    Src prog C A (.Tuple elts n pos) z (zipL ds es) (fun a => a = z ∨ a = TI ∨ a = TO ∨ a = i1 ∨ a = i2) (fun a => ∃ o, vis Mu h0 a o)
      (fun i h => IsZip h z TI TO .none ∧ IsPair h TI (.ref i1) (.ref i2) ∧ (∃ a b, IsPair h TO a b) ∧ h.IsListIter i1 l1 i ∧ h.IsListIter i2 l2 i ∧ ∀ a o, vis Mu h0 a o → h.get? a = some o) where
  frame := by
    rintro i h h' ⟨hz, hTI, ⟨a, b, hTO⟩, h1, h2, hv⟩ hk
    exact ⟨hk z _ (by simp) hz, hk TI _ (by simp) hTI, ⟨a, b, hk TO _ (by simp) hTO⟩, h1.at fun o e => hk i1 o (by simp) e, h2.at fun o e => hk i2 o (by simp) e, fun a o v => hk a o (.inr ⟨o, v⟩) (hv a o v)⟩
  live := by
    rintro i h ⟨hz, hTI, ⟨a, b, hTO⟩, ⟨o1, h1, _⟩, ⟨o2, h2, _⟩, hv⟩ a ((rfl | rfl | rfl | rfl | rfl) | ⟨o, v⟩)
    · exact ⟨_, hz⟩
    · exact ⟨_, hTI⟩
    · exact ⟨_, hTO⟩
    · exact ⟨_, h1⟩
    · exact ⟨_, h2⟩
    · exact ⟨o, hv a o v⟩
  item := by
    rintro i d s Mu' Q E hi ⟨hz, hTI, ⟨a, b, hTO⟩, h1, h2, hv⟩ hrd hm hQ
    obtain ⟨o1, v1, hc1, n1, hd1⟩ := hl1
    obtain ⟨o2, v2, hc2, n2, hd2⟩ := hl2
    rw [zipL, List.getElem?_zipWith] at hi
    obtain ⟨x, hx, y, hy, rfl⟩ : ∃ x, ds[i]? = some x ∧ ∃ y, es[i]? = some y ∧ d = .tup [x, y] := by
      cases hx : ds[i]? <;> cases hy : es[i]? <;> rw [hx, hy] at hi <;> simp at hi
      exact ⟨_, rfl, _, rfl, hi.symm⟩
    obtain ⟨v, hvv, rv⟩ := r1.get hx
    obtain ⟨u, huu, ru⟩ := r2.get hy
    have lt : ∀ {c o}, s.heap.get? c = some o → c ≠ s.heap.objs.size := fun e => Nat.ne_of_lt (Heap.lt_size e)
    refine wpAny_pyNext_zip_item D hz hTI hTO h1 h2 ⟨o1, hv _ _ v1, hc1, n1, hd1⟩ ⟨o2, hv _ _ v2, hc2, n2, hd2⟩ (x := v) (y := u) (by rw [List.getElem?_toArray]; exact hvv) (by rw [List.getElem?_toArray]; exact huu) fun h' a1 a2 a3 a4 a5 a6 hk => ?_
    refine ⟨_, rfl, wpAny_letOwnedTupleGo_zip a1 fun h₂ hz₂ hs₂ => ?_⟩
    have kp : ∀ a o, ¬ (a = z ∨ a = TI ∨ a = TO ∨ a = i1 ∨ a = i2) → s.heap.get? a = some o → h₂.get? a = some o := fun a o hw x => by
      simp only [not_or] at hw
      exact hs₂.extBut a o hw.1 (hk a o hw.1 hw.2.2.1 hw.2.2.2.1 hw.2.2.2.2 x)
    have nw : ∀ a o, vis Mu h0 a o → ¬ (a = z ∨ a = TI ∨ a = TO ∨ a = i1 ∨ a = i2) := fun a o v hw => by have := v.2; rw [hn a hw] at this; cases this
    refine hQ _ h₂ s.toks (fun a o hw x => kp a o hw x) ⟨hz₂, hs₂.extBut _ _ D.TIz (hk _ _ D.TIz D.TITO D.TIi1 D.TIi2 hTI), ⟨_, _, hs₂.extBut _ _ D.TOz a2⟩, a3.extBut hs₂.extBut D.i1z, a4.extBut hs₂.extBut D.i2z, fun a o v => kp a o (nw a o v) (hv a o v)⟩ ?_
    have hzT : s.heap.objs.size ≠ z := (lt hz).symm
    have hTm : ¬ (Mu' s.heap.objs.size ∨ s.heap.objs.size = z ∨ s.heap.objs.size = TI ∨ s.heap.objs.size = TO ∨ s.heap.objs.size = i1 ∨ s.heap.objs.size = i2) := by
      rintro (h | h | h | h | h | h)
      · obtain ⟨o, x⟩ := hm _ h; exact absurd (Heap.lt_size x) (Nat.lt_irrefl _)
      · exact lt hz h.symm
      · exact lt hTI h.symm
      · exact lt hTO h.symm
      · obtain ⟨_, x, _⟩ := h1; exact lt x h.symm
      · obtain ⟨_, x, _⟩ := h2; exact lt x h.symm
    refine .tup (vs := [_, _]) (n := 0) ⟨hTm, hs₂.extBut _ _ hzT a5⟩ (.cons (rv.mono fun a o v => ⟨fun h => h.elim (hrd a ⟨o, v⟩) (nw a o v), kp a o (nw a o v) (hv a o v)⟩) (.cons (ru.mono fun a o v => ⟨fun h => h.elim (hrd a ⟨o, v⟩) (nw a o v), kp a o (nw a o v) (hv a o v)⟩) .nil))
  done := by
    rintro s Q E ⟨hz, hTI, ⟨a, b, hTO⟩, h1, h2, hv⟩ hQ
    obtain ⟨o1, v1, hc1, n1, hd1⟩ := hl1
    obtain ⟨o2, v2, hc2, n2, hd2⟩ := hl2
    have e1 := r1.length
    have e2 := r2.length
    have hlen : (zipL ds es).length = min ds.length es.length := by simp [zipL]
    refine wpAny_pyNext_zip_end hh D hz hTI hTO h1 h2 ⟨o1, hv _ _ v1, hc1, n1, hd1⟩ ⟨o2, hv _ _ v2, hc2, n2, hd2⟩ ?_ fun h' hk => hQ h' s.toks fun c o hc e => ?_
    · rw [List.getElem?_toArray, List.getElem?_toArray, List.getElem?_eq_none_iff, List.getElem?_eq_none_iff, hlen]
      omega
    · simp only [not_or] at hc
      exact hk c o hc.1 hc.2.2.1 hc.2.2.2.1 hc.2.2.2.2 e
  self := fun i s Q E ⟨hz, _⟩ hQ => wpAny_pyIter_zip hz hQ
theorem apart5 (n l1 l2 : Nat) (h1 : l1 < n) (h2 : l2 < n) : ZipApart (n + 4) (n + 2) (n + 3) n (n + 1) l1 l2 := by
  constructor <;> (refine fun q => ?_; have q' := (show (_ : Nat) = _ from q); omega)
theorem le5 (n a : Nat) (h : a = n + 4 ∨ a = n + 2 ∨ a = n + 3 ∨ a = n ∨ a = n + 1) : n ≤ a := by omega
section
variable {C : Base} {k : Nat} {F : Fn} {ρ : Rho}
theorem SrcE.enum (H : FOK F) {p pos pt : Pos} {e : Expr} {elts : List Expr} {n : Nat} {ds : List D} (hx : F.env.kindOf "enumerate" = some .globalImplicit)
    (he : EV C k F ρ e (.list ds)) (hse : starEach [e] F.env = [(false, eval e F.env)] := by rfl) (hp : (backTo pos (starEach [] F.env)).any (·.1) = false := by rfl) : SrcE C k F ρ (.Call (.Name "enumerate" p) [e] [] pos) (.Tuple elts n pt) (enumL ds) := by
  refine SrcE.mk ?_
  intro prog A s Q E hA hs hQ
  have hm : ((Str.ofString "enumerate" : Str), Value.type "enumerate") ∈ biList := by decide
  refine wpAny_Call_NameR (Calls.Name_function_global H.kind hx (Calls.loadGlobal_builtin (hs.mg H) (C.bi _ hm).1 (hs.mb H) (C.bi _ hm).2 ?_) (by decide +kernel))
  refine PyProof.Rows.callWith_type1 ((EVs.cons H he EVs.nil hse).run _ _ _ _ _ _ hA hs fun vs s₁ y₁ rs => ?_) hse hp
  obtain ⟨v, rfl, r⟩ := rs.one
  obtain ⟨l, n, vs, rfl, x, y⟩ := r.list_i
  refine call_enumerate_list (isList_of x.2) fun h' hen hit hsz hk => wpAny_pyIter_enum hen ?_
  have hlt := Heap.lt_size x.2
  have n0 := none_of_le (h := s₁.heap) (a := s₁.heap.objs.size) (Nat.le_refl _)
  have n1 := none_of_le (h := s₁.heap) (a := s₁.heap.objs.size + 1) (Nat.le_succ _)
  refine hQ _ _ _ _ _ (Src.enum (vs := vs) (h0 := s₁.heap) (l := l) hA.1 (Nat.succ_ne_self _) (Nat.ne_of_lt (Nat.lt_succ_of_lt hlt)) (Nat.ne_of_lt hlt) n1 n0 y ⟨_, x, rfl, _, rfl⟩) (fun a ⟨o, v⟩ => v.1) (y₁.trans (Step.of hk)) ?_ ?_ ⟨⟨_, hen⟩, hit, fun a o v => hk _ _ v.2⟩
  · rintro a (rfl | rfl)
    · exact y₁.none_of hs.ok.tabs n1
    · exact y₁.none_of hs.ok.tabs n0
  · rintro a (rfl | rfl) q
    · exact notCode hen (fun vs q t e => by cases e; intro h; cases h) q
    · obtain ⟨o, e1, _, e2⟩ := hit
      exact notCode e1 (fun vs q t e => by rw [e2] at e; cases e; intro h; cases h) q
theorem SrcE.zip (H : FOK F) {p pos pt : Pos} {e f : Expr} {elts : List Expr} {n : Nat} {ds es : List D} (hx : F.env.kindOf "zip" = some .globalImplicit)
    (he : EV C k F ρ e (.list ds)) (hf : EV C k F ρ f (.list es)) (hse : starEach [e, f] F.env = (false, eval e F.env) :: starEach [f] F.env := by rfl) (hsf : starEach [f] F.env = (false, eval f F.env) :: starEach [] F.env := by rfl) (hp : (backTo pos (starEach [f] F.env)).any (·.1) = false := by rfl) : SrcE C k F ρ (.Call (.Name "zip" p) [e, f] [] pos) (.Tuple elts n pt) (zipL ds es) := by
  refine SrcE.mk ?_
  intro prog A s Q E hA hs hQ
  have hm : ((Str.ofString "zip" : Str), Value.type "zip") ∈ biList := by decide
  refine wpAny_Call_NameR (Calls.Name_function_global H.kind hx (Calls.loadGlobal_builtin (hs.mg H) (C.bi _ hm).1 (hs.mb H) (C.bi _ hm).2 ?_) (by decide +kernel))
  refine PyProof.Rows.callWith_type1 ((EVs.cons H he (EVs.cons H hf EVs.nil hsf) hse).run _ _ _ _ _ _ hA hs fun vs s₁ y₁ rs => ?_) hse hp
  obtain ⟨v, u, rfl, r1, r2⟩ := rs.two
  obtain ⟨l1, n1, vs, rfl, x1, y1⟩ := r1.list_i
  obtain ⟨l2, n2, us, rfl, x2, y2⟩ := r2.list_i
  refine call_zip_2 (isList_of x1.2) (isList_of x2.2) fun h' hz hTI hTO h1 h2 hsz hk => wpAny_pyIter_zip hz ?_
  have hlt1 := Heap.lt_size x1.2
  have hlt2 := Heap.lt_size x2.2
  have nn : ∀ a, a = s₁.heap.objs.size + 4 ∨ a = s₁.heap.objs.size + 2 ∨ a = s₁.heap.objs.size + 3 ∨ a = s₁.heap.objs.size ∨ a = s₁.heap.objs.size + 1 → s₁.heap.get? a = none := fun a ha => none_of_le (le5 _ _ ha)
  refine hQ _ _ _ _ _ (Src.zip (vs := vs) (us := us) (h0 := s₁.heap) (l1 := l1) (l2 := l2) hA.1 (apart5 _ _ _ hlt1 hlt2) nn y1 y2 ⟨_, x1, rfl, _, rfl⟩ ⟨_, x2, rfl, _, rfl⟩) (fun a ⟨o, v⟩ => v.1) (y₁.trans (Step.of hk)) ?_ ?_ ⟨hz, hTI, ⟨_, _, hTO⟩, h1, h2, fun a o v => hk _ _ v.2⟩
  · intro a ha; exact y₁.none_of hs.ok.tabs (nn a ha)
  · rintro a (rfl | rfl | rfl | rfl | rfl) q
    · exact notCode hz (fun vs q t e => by cases e; intro h; cases h) q
    · exact notCode hTI (fun vs q t e => by cases e) q
    · exact notCode hTO (fun vs q t e => by cases e) q
    · obtain ⟨o, e1, _, e2⟩ := h1
      exact notCode e1 (fun vs q t e => by rw [e2] at e; cases e; intro h; cases h) q
    · obtain ⟨o, e1, _, e2⟩ := h2
      exact notCode e1 (fun vs q t e => by rw [e2] at e; cases e; intro h; cases h) q
end
inductive IsComp (gens : List Comprehension) (acc : Value) (env : Env) : Expr → Sem Unit → Prop
  | list (elt : Expr) (scope : Scope) (pos : Pos) : IsComp gens acc env (.ListComp elt gens scope pos) (do let _ ← call (.builtin "list.append") [acc, ← eval elt env])
  | dict (k v : Expr) (scope : Scope) (pos : Pos) (d : Addr) (hd : acc = .ref d) : IsComp gens acc env (.DictComp k v gens scope pos) (do
        let kv ← eval k env
        let vv ← holding [kv] (eval v env)
        standAt { k.pos with endLine := v.pos.endLine, endCol := v.pos.endCol }
        holding [kv, vv] (dictSet d kv vv))
noncomputable def tests (ifs : List Expr) (env : Env) : Sem Bool := forIn ifs true fun c r => if r = true then do let ok ← isTrue c env (eval c env); pure (ForInStep.yield ok) else pure (ForInStep.yield r)
noncomputable def innerK (e : Expr) (depth : Nat) (acc : Value) (env : Env) (em : Sem Unit) (kont : Sem Fin) : Option Comprehension → Sem Fin
  | some g' => do
    let x ← eval g'.iter env
    standAt g'.iter.pos
    if g'.is_async != 0 then do
      let x ← foldedIterable g'.iter x
      let _ ← runOwn (.compStart e (depth + 1) (← holding [x] (if g'.is_async != 0 then asyncIter x else pyIter x)) acc env) env
      kont
    else do
      let x ← foldedSetIterable g'.iter env x
      let _ ← runOwn (.compStart e (depth + 1) (← holding [x] (if g'.is_async != 0 then asyncIter x else pyIter x)) acc env) env
      kont
  | none => do em; kont
noncomputable def Inner (prog : Program) (w : World) (A : Around) (e : Expr) (depth : Nat) (acc : Value) (env : Env) (em : Sem Unit) (Q : Shared → Prop) (s : Shared) : Option Comprehension → Prop
  | some g' => g'.is_async = 0 ∧ (∀ x, foldedSetIterable g'.iter env x = pure x) ∧ wpAny (model prog w) A (eval g'.iter env) (fun x s₁ => wpAny (model prog w) A (pyIter x) (fun it s₂ => codeAny (model prog w) A (.compStart e (depth + 1) it acc env) (fun r s₃ => (∃ f, r = .ok f) ∧ Q s₃) s₂) NoE s₁) NoE s
  | none => wpAny (model prog w) A em (fun _ s₁ => Q s₁) NoE s
theorem Inner.run {prog : Program} {w : World} {A : Around} {e : Expr} {depth : Nat} {acc : Value} {env : Env} {em : Sem Unit} {kont : Sem Fin} {Q : Shared → Prop} {s : Shared} {g : Option Comprehension} {QF : Fin → Shared → Prop} (h : Inner prog w A e depth acc env em Q s g)
    (hk : ∀ s', Q s' → wpAny (model prog w) A kont QF NoE s') : wpAny (model prog w) A (innerK e depth acc env em kont g) QF NoE s := by
  cases g with
  | none => exact wpAny_bind (wpAny_mono h (fun _ s₁ q => hk s₁ q) fun _ _ h' => h')
  | some g' =>
    obtain ⟨t', i', f', a'⟩ := g'
    obtain ⟨h1, h2, h3⟩ := h
    replace h1 : a' = 0 := h1
    subst h1
    unfold innerK
    refine wpAny_bind (wpAny_mono h3 (fun x s₁ q => wpAny_bind (wpAny_standAt (wpAny_bind (wpAny_of_eq (h2 x) (wpAny_bind (wpAny_holding (wpAny_mono q (fun it s₂ q2 => wpAny_bind (wpAny_runOwn (codeAny_mono q2 fun r s₃ q3 => ?_))) fun _ _ h' => h'))))))) fun _ _ h' => h')
    obtain ⟨⟨f, rfl⟩, q3⟩ := q3
    exact hk s₃ q3
theorem Inner.mono {prog : Program} {w : World} {A : Around} {e : Expr} {depth : Nat} {acc : Value} {env : Env} {em : Sem Unit} {Q Q' : Shared → Prop} {s : Shared} {g : Option Comprehension} (hq : ∀ s, Q s → Q' s) (h : Inner prog w A e depth acc env em Q s g) : Inner prog w A e depth acc env em Q' s g := by
  cases g with
  | none => exact wpAny_mono h (fun _ s₁ q => hq s₁ q) fun _ _ q => q
  | some g' => exact ⟨h.1, h.2.1, wpAny_mono h.2.2 (fun x s₁ q => wpAny_mono q (fun it s₂ q => codeAny_mono q fun r s₃ q => ⟨q.1, hq s₃ q.2⟩) fun _ _ q => q) fun _ _ q => q⟩
theorem IsComp.turn {gens : List Comprehension} {acc : Value} {env : Env} {e : Expr} {em : Sem Unit} (h : IsComp gens acc env e em) {depth : Nat} {target iter : Expr} {ifs : List Expr} (hg : gens[depth]? = some ⟨target, iter, ifs, 0⟩) (it : Value) :
    compTurn e depth it acc env = (do
      standAt iter.pos
      match ← pyNext it with
      | none => pure (.done .next)
      | some v =>
        letOwnedTupleGo target it v
        assign target env v
        let ok ← tests ifs env
        if ok = true then innerK e depth acc env em (again (.compLoop e depth it acc env)) gens[depth + 1]? else again (.compLoop e depth it acc env)) := by
  cases h with
  | list elt scope pos =>
    unfold compTurn
    simp only [hg]
    cases gens[depth + 1]? <;> rfl
  | dict k v scope pos d hd =>
    subst hd
    unfold compTurn
    simp only [hg]
    cases gens[depth + 1]? <;> rfl
section
variable {prog : Program} {w : World} {A : Around} {R : Result → Shared → Prop}
theorem my_compLoop {gens : List Comprehension} {acc : Value} {env : Env} {e : Expr} {em : Sem Unit} (he : IsComp gens acc env e em) {depth : Nat} {target iter : Expr} {ifs : List Expr} (hg : gens[depth]? = some ⟨target, iter, ifs, 0⟩) {it : Value} (I : Nat → Shared → Prop)
    (turn : ∀ n s, I n s → wpAny (model prog w) A (pyNext it) (fun r s₁ => match r with
      | none => R (.ok .next) s₁
      | some v => wpAny (model prog w) A (letOwnedTupleGo target it v) (fun _ s₁' => wpAny (model prog w) A (assign target env v) (fun _ s₂ => wpAny (model prog w) A (tests ifs env) (fun ok s₃ =>
          if ok = true then Inner prog w A e depth acc env em (fun s₄ => ∃ m, m < n ∧ I m s₄) s₃ gens[depth + 1]? else ∃ m, m < n ∧ I m s₃) NoE s₂) NoE s₁') NoE s₁) NoE s)
    {s : Shared} (n : Nat) (h : I n s) : codeAny (model prog w) A (.compLoop e depth it acc env) R s := by
  have ht := he.turn hg it
  have hq : (Code.compLoop e depth it acc env).quiet = true := by cases he <;> rfl
  have hden : ∀ n s, I n s → wpAny (model prog w) A (compTurn e depth it acc env) (fun fin s' => match fin with
        | .done f => R (.ok f) s'
        | .again c' => (c' = .compLoop e depth it acc env ∧ ∃ m, m < n ∧ I m s') ∨ (c'.quiet = true ∧ codeAny (model prog w) A c' R s')) NoE s := fun n s hI => by
    rw [ht]
    refine wpAny_bind (wpAny_standAt (wpAny_bind (wpAny_mono (turn n s hI) (fun r s₁ h₁ => ?_) fun _ _ h' => h')))
    cases r with
    | none => exact wpAny_pure h₁
    | some v =>
      refine wpAny_bind (wpAny_mono h₁ (fun _ s₁' h₁' => wpAny_bind (wpAny_mono h₁' (fun _ s₂ h₂ => wpAny_bind (wpAny_mono h₂ (fun ok s₃ h₃ => ?_) fun _ _ h' => h')) fun _ _ h' => h')) fun _ _ h' => h')
      cases ok with
      | false => exact wpAny_pure (.inl ⟨rfl, h₃⟩)
      | true => exact Inner.run h₃ fun s₄ h₄ => wpAny_pure (.inl ⟨rfl, h₄⟩)
  refine codeAny_loop' hq I (fun n s hI => ?_) n h
  have key := hden n s hI
  cases he with
  | list elt scope pos =>
    show wpAny _ A ((compTurn _ depth it acc env).onRaise (fun x => do noteFrame x env; theTreesLotGoes x)) _ _ s
    exact wpAny_noted (wpAny_noRaise key)
  | dict k v scope pos d hd =>
    show wpAny _ A ((compTurn _ depth it acc env).onRaise (fun x => do noteFrame x env; theTreesLotGoes x)) _ _ s
    exact wpAny_noted (wpAny_noRaise key)
theorem my_compStart {gens : List Comprehension} {acc : Value} {env : Env} {e : Expr} {em : Sem Unit} (he : IsComp gens acc env e em) {depth : Nat} {target iter : Expr} {ifs : List Expr} (hg : gens[depth]? = some ⟨target, iter, ifs, 0⟩) {it : Value} {s : Shared}
    (h0 : codeAny (model prog w) A (.compLoop e depth it acc env) R s)
    (h : wpAny (model prog w) A (pyIter it) (fun it' s' => codeAny (model prog w) A (.compLoop e depth it' acc env) R s') NoE s) : codeAny (model prog w) A (.compStart e depth it acc env) R s := by
  have hc : clausesOf e = gens := by cases he <;> rfl
  have hl : ∀ it', (Code.compLoop e depth it' acc env).quiet = true := fun it' => by cases he <;> rfl
  have key : wpAny (model prog w) A (compStart e depth it acc env) (fun fin s' => match fin with | .done f => R (.ok f) s' | .again c' => c'.quiet = true ∧ codeAny (model prog w) A c' R s') NoE s := by
    unfold compStart
    rw [hc, hg]
    show wpAny _ A (ask >>= _) _ _ s
    refine wpAny_bind (wpAny_askSetting (wpAny_ite ?_))
    split
    · first
        | exact wpAny_bind (wpAny_pure (wpAny_pure (And.intro (hl _) h0)))
        | exact wpAny_pure (And.intro (hl _) h0)
    · first
        | exact wpAny_bind (wpAny_rule (wpAny_bind (wpAny_standAt (wpAny_bind (wpAny_mono h (fun it' s' h' => wpAny_pure (And.intro (hl _) h')) fun _ _ x => x)))))
        | (refine wpAny_bind (wpAny_rule ?_); show wpAny _ _ (standAt iter.pos >>= _) _ _ s; exact wpAny_bind (wpAny_standAt (wpAny_bind (wpAny_mono h (fun it' s' h' => wpAny_pure (And.intro (hl _) h')) fun _ _ x => x))))
  refine codeAny_of_tree ?_
  cases he with
  | list elt scope pos =>
    show wpAny _ _ ((compStart _ depth it acc env).onRaise (fun x => do noteFrame x env; standAt theWindowsPlace)) _ _ s
    exact wpAny_notedAt (wpAny_noRaise key)
  | dict k v scope pos d hd =>
    show wpAny _ _ ((compStart _ depth it acc env).onRaise (fun x => do noteFrame x env; standAt theWindowsPlace)) _ _ s
    exact wpAny_notedAt (wpAny_noRaise key)
end
noncomputable def Fn.baseX (F : Fn) (h : Heap) (B : Addr) : Fn := { F with Kp := fun a o => ¬ isTab a ∧ ¬ F.own a ∧ a ≠ B ∧ h.get? a = some o, h₀ := h }
theorem Like.baseX {F : Fn} (H : FOK F) (h : Heap) (B : Addr) : Like F (F.baseX h B) := ⟨rfl, rfl, fun _ => id, ⟨⟨H.kind, H.ownL, H.ownMu, fun _ _ e => e.2.1, H.glob, H.bi⟩, fun _ _ e => e.1⟩⟩
structure CF (F : Fn) (B : Addr) : Prop where
  fok : FOK F
  mu : F.Mu B
  own : ¬ F.own B
  kp : ∀ a o, F.Kp a o → a ≠ B
  nt : ¬ isTab B
theorem CF.grow {F : Fn} {B : Addr} (K : CF F B) (wr : Addr → Prop) : CF (F.grow wr) B := ⟨(Like.grow K.fok wr).fok, .inl K.mu, K.own, K.kp, K.nt⟩
theorem CF.baseX {F : Fn} {B : Addr} (K : CF F B) (h : Heap) : CF (F.baseX h B) B := ⟨(Like.baseX K.fok h B).fok, K.mu, K.own, fun _ _ e => e.2.2.1, K.nt⟩
section
variable {C : Base} {k : Nat} {F : Fn} {ρ : Rho}
theorem St.baseX {s : Shared} {B : Addr} (h : St C F ρ s) : St C (F.baseX s.heap B) ρ s := by
  obtain ⟨m, n, hh⟩ := h.fr
  exact ⟨h.ok, fun a o e => e.2.2.2, Since.refl _, h.cells, m, n, fun p hp => hh p hp⟩
theorem St.unbaseX {B : Addr} (K : CF F B) {s s' : Shared} {ρ' : Rho} (hs : St C F ρ s) (h : St C (F.baseX s.heap B) ρ' s') : St C F ρ' s' := by
  obtain ⟨m, n, hh⟩ := h.fr
  exact ⟨h.ok, fun a o e => h.kept a o ⟨K.fok.nt a o e, K.fok.ownKp a o e, K.kp a o e, hs.kept a o e⟩, hs.since.trans h.since, h.cells, m, n, fun p hp => hh p hp⟩
@[irreducible] noncomputable def Ifs (C : Base) (k : Nat) (F : Fn) (ρ : Rho) (ifs : List Expr) (b : Bool) : Prop :=
  ∀ (prog : Program) (A : Around) (s : Shared) (Q : Bool → Shared → Prop) (E : Value → Shared → Prop), Rm k A → St C F ρ s → (∀ s', Step s s' → Q b s') → wpAny (model prog C.w) A (tests ifs F.env) Q E s
theorem Ifs.run {ifs : List Expr} {b : Bool} (h : Ifs C k F ρ ifs b) : ∀ (prog : Program) (A : Around) (s : Shared) (Q : Bool → Shared → Prop) (E : Value → Shared → Prop), Rm k A → St C F ρ s → (∀ s', Step s s' → Q b s') → wpAny (model prog C.w) A (tests ifs F.env) Q E s := by
  unfold Ifs at h; exact h
theorem Ifs.nil : Ifs C k F ρ [] true := by
  unfold Ifs; intro prog A s Q E hA hs hQ; exact wpAny_tests_nil (hQ s (Step.refl _))
theorem Ifs.one {t : Expr} {b : Bool} (h : TT C k F ρ t b) : Ifs C k F ρ [t] b := by
  unfold Ifs; intro prog A s Q E hA hs hQ; exact wpAny_tests_one (h.run _ _ _ _ _ hA hs hQ)
inductive CL (C : Base) (k : Nat) (P : Fn → Rho → D → Prop) : Fn → Rho → Expr → List Expr → List Comprehension → List D → List D → Prop
  | last {F : Fn} {ρ : Rho} {target : Expr} {ifs : List Expr} {ds : List D} (ρt : Nat → Rho) (bs : Nat → Bool) (fs : Nat → D)
    (h1 : ∀ i d, ds[i]? = some d → (∀ p ∈ ρ, p ∈ ρt i) ∧ ∀ F₂, Like F F₂ → Asg C k F₂ ρ target d (ρt i))
    (h2 : ∀ i d, ds[i]? = some d → ∀ F₂, Like F F₂ → Ifs C k F₂ (ρt i) ifs (bs i))
    (h3 : ∀ i d, ds[i]? = some d → bs i = true → ∀ F₂, Like F F₂ → P F₂ (ρt i) (fs i)) :
    CL C k P F ρ target ifs [] ds ((List.range ds.length).flatMap fun i => if bs i then [fs i] else [])
  | more {F : Fn} {ρ : Rho} {target : Expr} {ifs : List Expr} {ds : List D} {target' iter' : Expr} {ifs' : List Expr} {gs : List Comprehension} (ρt : Nat → Rho) (bs : Nat → Bool) (es : Nat → List D) (fs : Nat → List D)
    (h1 : ∀ i d, ds[i]? = some d → (∀ p ∈ ρ, p ∈ ρt i) ∧ ∀ F₂, Like F F₂ → Asg C k F₂ ρ target d (ρt i))
    (h2 : ∀ i d, ds[i]? = some d → ∀ F₂, Like F F₂ → Ifs C k F₂ (ρt i) ifs (bs i))
    (h3 : ∀ i d, ds[i]? = some d → bs i = true → ∀ F₂, Like F F₂ → SrcE C k F₂ (ρt i) iter' target' (es i))
    (h4 : ∀ x, foldedSetIterable iter' F.env x = pure x)
    (h5 : ∀ i d, ds[i]? = some d → bs i = true → CL C k P F (ρt i) target' ifs' gs (es i) (fs i)) :
    CL C k P F ρ target ifs (⟨target', iter', ifs', 0⟩ :: gs) ds ((List.range ds.length).flatMap fun i => if bs i then fs i else [])
theorem flat_succ (f : Nat → List D) (i : Nat) : (List.range (i + 1)).flatMap f = (List.range i).flatMap f ++ f i := by
  rw [List.range_succ, List.flatMap_append]; simp
variable {prog : Program} {A : Around} {e : Expr} {acc : Value} {env : Env} {em : Sem Unit} {gens : List Comprehension} {B : Addr} {P : Fn → Rho → D → Prop} {J : (Addr → Prop) → List D → Heap → Prop}
theorem flat_le (f : Nat → List D) {i n : Nat} (h : i < n) : ((List.range i).flatMap f ++ f i).length ≤ ((List.range n).flatMap f).length := by
  rw [← flat_succ]
  induction n with
  | zero => omega
  | succ n ih =>
    by_cases q : i = n
    · rw [q]; exact Nat.le_refl _
    · refine Nat.le_trans (ih (by omega)) ?_
      rw [flat_succ f n, List.length_append]; omega
theorem compGo (N : Nat) (F₀ : Fn) (he : IsComp gens acc F₀.env e em)
    (hJ : ∀ Mu Mu' ys h h', J Mu ys h → (∀ a o, vis Mu h a o → vis Mu' h' a o) → h'.get? B = h.get? B → J Mu' ys h')
    (hem : ∀ F ρ y s ys, (ys ++ [y]).length ≤ N → F.env = F₀.env → CF F B → P F ρ y → St C F ρ s → J F.Mu ys s.heap → wpAny (model prog C.w) A em (fun _ s' => St C F ρ s' ∧ J F.Mu (ys ++ [y]) s'.heap) NoE s) (hA : Rm k A)
    {F : Fn} {ρ : Rho} {target : Expr} {ifs : List Expr} {gs : List Comprehension} {ds out : List D} (L : CL C k P F ρ target ifs gs ds out) :
    ∀ (F₁ : Fn) (depth : Nat) (iter : Expr), Like F F₁ → F.env = F₀.env → CF F₁ B → gens[depth]? = some ⟨target, iter, ifs, 0⟩ → gens.drop (depth + 1) = gs →
      ∀ (I : Addr) (wr rd : Addr → Prop) (Sx : Nat → Heap → Prop) (s : Shared) (ys : List D) (R : Result → Shared → Prop), Src prog C A target I ds wr rd Sx → (∀ a, rd a → ¬ F₁.Mu a) → WrOK C F₁ wr → St C (F₁.grow wr) ρ s → Sx 0 s.heap → J (F₁.grow wr).Mu ys s.heap → (ys ++ out).length ≤ N →
      (∀ s', St C F₁ ρ s' → J F₁.Mu (ys ++ out) s'.heap → R (.ok .next) s') → codeAny (model prog C.w) A (.compLoop e depth (.ref I) acc F₀.env) R s := by
  -- the loop, whatever one turn does at its end
  have loop : ∀ {F : Fn} {ρ : Rho} {target : Expr} {ifs : List Expr} {ds : List D} (ρt : Nat → Rho) (bs : Nat → Bool) (fs : Nat → List D)
    (_ : ∀ i d, ds[i]? = some d → (∀ p ∈ ρ, p ∈ ρt i) ∧ ∀ F₂, Like F F₂ → Asg C k F₂ ρ target d (ρt i))
    (_ : ∀ i d, ds[i]? = some d → ∀ F₂, Like F F₂ → Ifs C k F₂ (ρt i) ifs (bs i))
    (F₁ : Fn) (depth : Nat) (iter : Expr), Like F F₁ → F.env = F₀.env → CF F₁ B → gens[depth]? = some ⟨target, iter, ifs, 0⟩ →
    (∀ i d, ds[i]? = some d → bs i = true → ∀ (F₂ : Fn) s ys, (ys ++ fs i).length ≤ N → Like F F₂ → CF F₂ B → St C F₂ (ρt i) s → J F₂.Mu ys s.heap → Inner prog C.w A e depth acc F₀.env em (fun s' => St C F₂ (ρt i) s' ∧ J F₂.Mu (ys ++ fs i) s'.heap) s gens[depth + 1]?) →
      ∀ (I : Addr) (wr rd : Addr → Prop) (Sx : Nat → Heap → Prop) (s : Shared) (ys : List D) (R : Result → Shared → Prop), Src prog C A target I ds wr rd Sx → (∀ a, rd a → ¬ F₁.Mu a) → WrOK C F₁ wr → St C (F₁.grow wr) ρ s → Sx 0 s.heap → J (F₁.grow wr).Mu ys s.heap → (ys ++ (List.range ds.length).flatMap fun i => if bs i then fs i else []).length ≤ N →
      (∀ s', St C F₁ ρ s' → J F₁.Mu (ys ++ (List.range ds.length).flatMap fun i => if bs i then fs i else []) s'.heap → R (.ok .next) s') → codeAny (model prog C.w) A (.compLoop e depth (.ref I) acc F₀.env) R s := by
    intro F ρ target ifs ds ρt bs fs h1 h2 F₁ depth iter hL henv K hg hin I wr rd Sx s ys R S hrd W hs hx hj hN hR
    have H₁ := K.fok
    have tb := hs.ok.tab
    have ee : F₁.env = F₀.env := hL.env.trans henv
    have tbF : ∀ a, isTab a → F₁.Mu a := fun a t => (tb a t).elim id fun w => absurd t (W.tab a w)
    have wB : ¬ wr B := W.mu B K.mu
    refine my_compLoop he hg (fun n s' => ∃ i, n = ds.length - i ∧ i ≤ ds.length ∧ St C (F₁.grow wr) ρ s' ∧ Sx i s'.heap ∧ J (F₁.grow wr).Mu (ys ++ (List.range i).flatMap fun i => if bs i then fs i else []) s'.heap) ?_ _
      ⟨0, rfl, Nat.zero_le _, hs, hx, by simpa using hj⟩
    rintro n s' ⟨i, rfl, hi, hs', hx', hj'⟩
    cases hd : ds[i]? with
    | none =>
      have ei : i = ds.length := Nat.le_antisymm hi (by simpa using hd)
      subst ei
      refine S.done s' _ _ hx' fun h₂ tk hk => ?_
      refine hR _ (hs'.leave W tbF hk (tk := tk)) (hJ _ _ _ _ _ hj' (fun a o v => ⟨fun hm => v.1 (.inl hm), hk a o (fun w => v.1 (.inr w)) v.2⟩) ?_)
      obtain ⟨o, e⟩ := hs'.ok.live B (.inl K.mu)
      exact (hk B o wB e).trans e.symm
    | some d =>
      have hlt : i < ds.length := (List.getElem?_eq_some_iff.mp hd).1
      have key := S.turn H₁ hrd W hA hd hs' hx' (fun F₂ L₂ => (h1 i d hd).2 F₂ (hL.trans L₂)) (Q := fun s₃ => wpAny (model prog C.w) A (tests ifs F₀.env) (fun ok s₃ =>
          if ok = true then Inner prog C.w A e depth acc F₀.env em (fun s₄ => ∃ m, m < ds.length - i ∧ ∃ j, m = ds.length - j ∧ j ≤ ds.length ∧ St C (F₁.grow wr) ρ s₄ ∧ Sx j s₄.heap ∧ J (F₁.grow wr).Mu (ys ++ (List.range j).flatMap fun i => if bs i then fs i else []) s₄.heap) s₃ gens[depth + 1]?
          else ∃ m, m < ds.length - i ∧ ∃ j, m = ds.length - j ∧ j ≤ ds.length ∧ St C (F₁.grow wr) ρ s₃ ∧ Sx j s₃.heap ∧ J (F₁.grow wr).Mu (ys ++ (List.range j).flatMap fun i => if bs i then fs i else []) s₃.heap) NoE s₃) fun s₃ h₃ hx₃ kp₃ => ?_
      · rw [ee] at key
        refine wpAny_mono key (fun r s₁ q => ?_) fun _ _ q => q
        obtain ⟨v, rfl, q⟩ := q
        exact q
      · have LG : Like F (F₁.grow wr) := hL.trans (Like.grow H₁ wr)
        have i2 := (h2 i d hd _ LG).run prog A s₃ (fun ok s₃ =>
          if ok = true then Inner prog C.w A e depth acc F₀.env em (fun s₄ => ∃ m, m < ds.length - i ∧ ∃ j, m = ds.length - j ∧ j ≤ ds.length ∧ St C (F₁.grow wr) ρ s₄ ∧ Sx j s₄.heap ∧ J (F₁.grow wr).Mu (ys ++ (List.range j).flatMap fun i => if bs i then fs i else []) s₄.heap) s₃ gens[depth + 1]?
          else ∃ m, m < ds.length - i ∧ ∃ j, m = ds.length - j ∧ j ≤ ds.length ∧ St C (F₁.grow wr) ρ s₃ ∧ Sx j s₃.heap ∧ J (F₁.grow wr).Mu (ys ++ (List.range j).flatMap fun i => if bs i then fs i else []) s₃.heap) NoE hA h₃ fun s₄ y => ?_
        · rw [show (F₁.grow wr).env = F₀.env from ee] at i2
          exact i2
        · have hs₄ := h₃.step y (Like.grow H₁ wr).fok.nt
          have nmt : ∀ a, (wr a ∨ rd a) → ¬ isTab a := fun a hm t => hm.elim (fun w => W.tab a w t) fun r => hrd a r (tbF a t)
          have hx₄ : Sx (i + 1) s₄.heap := S.frame _ _ _ hx₃ fun a o hm e => y.keep a o (nmt a hm) e
          have vk : ∀ a o, vis (F₁.grow wr).Mu s'.heap a o → vis (F₁.grow wr).Mu s₄.heap a o := fun a o v => ⟨v.1, y.keep a o (fun t => v.1 (tb a t)) (kp₃ a o (fun t => v.1 (tb a t)) (fun w => v.1 (.inl (H₁.ownMu a w))) (fun w => v.1 (.inr w)) v.2)⟩
          have bk : s₄.heap.get? B = s'.heap.get? B := by
            obtain ⟨o, e⟩ := hs'.ok.live B (.inl K.mu)
            exact (y.keep B o K.nt (kp₃ B o K.nt K.own wB e)).trans e.symm
          have hj₄ := hJ _ _ _ _ _ hj' vk bk
          cases hb : bs i with
          | false =>
            refine ⟨_, by omega, i + 1, rfl, hlt, hs₄.weaken (h1 i d hd).1, hx₄, ?_⟩
            rw [flat_succ, hb]; simpa using hj₄
          | true =>
            have KG := (K.grow wr).baseX s₄.heap
            rw [if_pos rfl]
            refine Inner.mono ?_ (hin i d hd hb ((F₁.grow wr).baseX s₄.heap B) s₄ _ (by
              have := flat_le (fun i => if bs i then fs i else []) hlt
              simp only [hb, if_true, List.length_append] at this hN ⊢
              omega) (LG.trans (Like.baseX (Like.grow H₁ wr).fok _ _)) KG hs₄.baseX hj₄)
            show ∀ s₅, St C ((F₁.grow wr).baseX s₄.heap B) (ρt i) s₅ ∧ J ((F₁.grow wr).baseX s₄.heap B).Mu ((ys ++ (List.range i).flatMap fun i => if bs i then fs i else []) ++ fs i) s₅.heap → ∃ m, m < ds.length - i ∧ ∃ j, m = ds.length - j ∧ j ≤ ds.length ∧ St C (F₁.grow wr) ρ s₅ ∧ Sx j s₅.heap ∧ J (F₁.grow wr).Mu (ys ++ (List.range j).flatMap fun i => if bs i then fs i else []) s₅.heap
            · rintro s₅ ⟨h₅, j₅⟩
              refine ⟨_, by omega, i + 1, rfl, hlt, (St.unbaseX (K.grow wr) hs₄ h₅).weaken (h1 i d hd).1, S.frame _ _ _ hx₄ fun a o hm e => h₅.kept a o ⟨nmt a hm, fun w => ?_, fun q => ?_, e⟩, ?_⟩
              · rcases hm with hm | hm
                · exact W.own a w hm
                · exact hrd a hm (H₁.ownMu a w)
              · subst q
                rcases hm with hm | hm
                · exact wB hm
                · exact hrd _ hm K.mu
              · rw [flat_succ, hb, if_pos rfl, ← List.append_assoc]; exact j₅
  induction L with
  | @last ρ target ifs ds ρt bs fs h1 h2 h3 =>
    intro F₁ depth iter hL henv K hg hdr I wr rd Sx s ys R S hrd W hs hx hj hN hR
    refine loop ρt bs (fun i => [fs i]) h1 h2 F₁ depth iter hL henv K hg ?_ I wr rd Sx s ys R S hrd W hs hx hj hN hR
    intro i d hd hb F₂ s ys hN L₂ K₂ hs hj
    have : gens[depth + 1]? = none := by rw [List.getElem?_eq_none_iff]; exact List.drop_eq_nil_iff.mp hdr
    rw [this]
    exact hem F₂ _ _ s ys hN (L₂.env.trans henv) K₂ (h3 i d hd hb F₂ L₂) hs hj
  | @more ρ target ifs ds target' iter' ifs' gs ρt bs es fs h1 h2 h3 h4 h5 ih =>
    intro F₁ depth iter hL henv K hg hdr I wr rd Sx s ys R S hrd W hs hx hj hN hR
    refine loop ρt bs fs h1 h2 F₁ depth iter hL henv K hg ?_ I wr rd Sx s ys R S hrd W hs hx hj hN hR
    intro i d hd hb F₂ s ys hN L₂ K₂ hs hj
    have hg' : gens[depth + 1]? = some ⟨target', iter', ifs', 0⟩ := by
      have := congrArg (·[0]?) hdr
      simpa [List.getElem?_drop] using this
    have hdr' : gens.drop (depth + 1 + 1) = gs := by
      have := congrArg (List.drop 1) hdr
      simpa [List.drop_drop] using this
    rw [hg']
    refine ⟨rfl, fun x => by rw [← henv]; exact h4 x, ?_⟩
    have e2 := L₂.env.trans henv
    have key := (h3 i d hd hb F₂ L₂).run prog A s (fun it s₂ => codeAny (model prog C.w) A (.compStart e (depth + 1) it acc F₀.env) (fun r s₃ => (∃ f, r = .ok f) ∧ St C F₂ (ρt i) s₃ ∧ J F₂.Mu (ys ++ fs i) s₃.heap) s₂) NoE hA hs fun I' s₂ wr' rd' Sx' S' hrd' y hf hc hx' => ?_
    · rw [e2] at key; exact key
    · have W' : WrOK C F₂ wr' := WrOK.of K₂.fok hs hf
      have hs₂ : St C (F₂.grow wr') (ρt i) s₂ := hs.ingrow K₂.fok y hf (fun a w => S'.live _ _ hx' a (.inl w)) hc
      have tb := hs.ok.tab
      have hj₂ : J (F₂.grow wr').Mu ys s₂.heap := hJ _ _ _ _ _ hj (fun a o v => ⟨fun hm => hm.elim v.1 (fun w => nomatch (hf a w).symm.trans v.2), y.keep a o (fun t => v.1 (tb a t)) v.2⟩) (by
        obtain ⟨o, e⟩ := hs.ok.live B K₂.mu
        exact (y.keep B o K₂.nt e).trans e.symm)
      have go := ih i d hd hb F₂ (depth + 1) iter' L₂ henv K₂ hg' hdr' I' wr' rd' Sx' s₂ ys (fun r s₃ => (∃ f, r = .ok f) ∧ St C F₂ (ρt i) s₃ ∧ J F₂.Mu (ys ++ fs i) s₃.heap) S' hrd' W' hs₂ hx' hj₂ hN fun s' a b => ⟨⟨_, rfl⟩, a, b⟩
      exact my_compStart he hg' go (S'.self _ _ _ _ hx' go)
end
noncomputable def closL (env : Env) : List (Str × NameKind) → List (Str × Addr) → List (Str × Addr)
  | [], cs => cs
  | (n, kd) :: r, cs => closL env r (if kd == .free then (n, (env.cells.lookup n).getD 0) :: cs else cs)
theorem closureFor_eq {env : Env} {scope : Scope} (h : ∀ p ∈ scope.names, p.2 = .free → ∃ c, env.cells.lookup p.1 = some c) : closureFor scope env = pure (closL env scope.names []) := by
  have go : ∀ (ns : List (Str × NameKind)) (cs : List (Str × Addr)), (∀ p ∈ ns, p.2 = .free → ∃ c, env.cells.lookup p.1 = some c) →
      (forIn ns cs fun (p : Str × NameKind) (r : List (Str × Addr)) => (if p.2 == .free then do let a ← cellOf env p.1; pure (ForInStep.yield ((p.1, a) :: r)) else pure (ForInStep.yield r) : Sem _)) = pure (closL env ns cs) := by
    intro ns
    induction ns with
    | nil => intro cs _; rfl
    | cons p r ih =>
      intro cs hp
      rw [List.forIn_cons, closL]
      by_cases hk : p.2 == .free
      · obtain ⟨c, hc⟩ := hp p (by simp) (by simpa using hk)
        have : cellOf env p.1 = pure c := by unfold cellOf; rw [hc]
        simp only [hk, if_true, this, pure_bind, hc, Option.getD_some]
        exact ih _ fun q hq => hp q (List.mem_cons_of_mem _ hq)
      · simp only [hk, Bool.false_eq_true, if_false, pure_bind]
        exact ih _ fun q hq => hp q (List.mem_cons_of_mem _ hq)
  have := go scope.names [] h
  unfold closureFor
  simp only
  rw [show (forIn scope.names [] fun (p : Str × NameKind) (r : List (Str × Addr)) => _) = _ from this]
  rfl
theorem closL_mem {env : Env} : ∀ {ns : List (Str × NameKind)} {cs : List (Str × Addr)} {x : Str} {c : Addr}, (x, c) ∈ closL env ns cs → (x, c) ∈ cs ∨ c = (env.cells.lookup x).getD 0 ∧ (x, NameKind.free) ∈ ns
  | [], _, _, _, h => .inl h
  | (n, kd) :: r, cs, x, c, h => by
    rcases closL_mem (ns := r) h with h | ⟨h, m⟩
    · by_cases hk : kd == .free
      · rw [if_pos hk] at h
        rcases List.mem_cons.mp h with e | e
        · cases e; exact .inr ⟨rfl, by have := eq_of_beq hk; subst this; exact List.mem_cons_self ..⟩
        · exact .inl e
      · rw [if_neg hk] at h; exact .inl h
    · exact .inr ⟨h, List.mem_cons_of_mem _ m⟩
theorem closL_has {env : Env} : ∀ {ns : List (Str × NameKind)} {cs : List (Str × Addr)} {x : Str}, ((x, NameKind.free) ∈ ns ∨ ∃ c, (x, c) ∈ cs) → ∃ c, (x, c) ∈ closL env ns cs
  | [], _, _, h => h.elim (fun h => by cases h) id
  | (n, kd) :: r, cs, x, h => by
    refine closL_has (ns := r) ?_
    rcases h with h | ⟨c, h⟩
    · rcases List.mem_cons.mp h with e | e
      · cases e; exact .inr ⟨_, by rw [if_pos (by rfl)]; exact List.mem_cons_self ..⟩
      · exact .inl e
    · right
      refine ⟨c, ?_⟩
      split
      · exact List.mem_cons_of_mem _ h
      · exact h
theorem lookup_mem {α β : Type} [BEq α] [LawfulBEq α] : ∀ {l : List (α × β)} {x : α} {c : β}, l.lookup x = some c → (x, c) ∈ l
  | (y, d) :: r, x, c, h => by
    rw [List.lookup_cons] at h
    by_cases e : x == y
    · rw [e] at h; cases h; rw [eq_of_beq e]; exact List.mem_cons_self ..
    · simp only [e] at h
      exact List.mem_cons_of_mem _ (lookup_mem h)
theorem mem_lookup {α β : Type} [BEq α] [LawfulBEq α] : ∀ {l : List (α × β)} {x : α} {c : β}, (x, c) ∈ l → ∃ c', l.lookup x = some c'
  | (y, d) :: r, x, c, h => by
    rw [List.lookup_cons]
    by_cases e : x == y
    · rw [e]; exact ⟨_, rfl⟩
    · simp only [e]
      rcases List.mem_cons.mp h with q | q
      · cases q; simp at e
      · exact mem_lookup q
theorem closL_lookup {env : Env} {ns : List (Str × NameKind)} (hf : ∀ p ∈ ns, p.2 = .free → ∃ c, env.cells.lookup p.1 = some c) {x : Str} {c : Addr} (h : (closL env ns []).lookup x = some c) : env.cells.lookup x = some c := by
  rcases closL_mem (lookup_mem h) with e | ⟨e, m⟩
  · cases e
  · obtain ⟨c', hc⟩ := hf _ m rfl
    rw [hc] at e ⊢; rw [e]; rfl
theorem closL_free {env : Env} {ns : List (Str × NameKind)} (hf : ∀ p ∈ ns, p.2 = .free → ∃ c, env.cells.lookup p.1 = some c) {x : Str} (h : (x, NameKind.free) ∈ ns) : ∃ c, (closL env ns []).lookup x = some c ∧ env.cells.lookup x = some c := by
  obtain ⟨c, hm⟩ := closL_has (env := env) (cs := []) (.inl h)
  obtain ⟨c', e⟩ := mem_lookup hm
  exact ⟨c', e, closL_lookup hf e⟩
theorem lookup_relabel {env : Env} : ∀ {names : List (Str × NameKind)} {x : Str} {q : NameKind}, names.lookup x = some q →
    (names.map fun (n, k) => if (k == NameKind.free && env.scope.kind == .function && env.kindOf n == some .cell) then (n, NameKind.cell) else (n, k)).lookup x = some (if (q == NameKind.free && env.scope.kind == .function && env.kindOf x == some .cell) then .cell else q)
  | (n, k) :: r, x, q, h => by
    have ih := @lookup_relabel env r x q
    show List.lookup x ((if (k == NameKind.free && env.scope.kind == .function && env.kindOf n == some .cell) = true then (n, NameKind.cell) else (n, k)) :: _) = _
    cases hx : x == n with
    | true =>
      simp only [List.lookup_cons, hx] at h
      cases h
      have := eq_of_beq hx; subst this
      by_cases hc : (k == NameKind.free && env.scope.kind == .function && env.kindOf x == some .cell) = true
      · rw [if_pos hc, if_pos hc]; simp [List.lookup_cons]
      · rw [if_neg hc, if_neg hc]; simp [List.lookup_cons]
    | false =>
      simp only [List.lookup_cons, hx] at h
      by_cases hc : (k == NameKind.free && env.scope.kind == .function && env.kindOf n == some .cell) = true
      · rw [if_pos hc]; simp only [List.lookup_cons, hx]; exact ih h
      · rw [if_neg hc]; simp only [List.lookup_cons, hx]; exact ih h
noncomputable def scopeOK (scope : Scope) : Bool := scope.kind == .function && scope.names.all (fun x => x.2 != .cell) && scope.names.all (fun x => x.2 != .local || scope.names.lookup x.1 == some .local)
structure InComp (F F₂ : Fn) (scope : Scope) : Prop where
  fok : FOK F₂
  scope : F₂.env.scope = relabel scope F.env
  mu : ∀ a, F.Mu a → F₂.Mu a
theorem InComp.kd {F F₂ : Fn} {scope : Scope} (h : InComp F F₂ scope) {x : Str} {q : NameKind} (e : scope.names.lookup x = some q) (hq : q ≠ .free) : F₂.env.kindOf x = some q := by
  show F₂.env.scope.names.lookup x = some q
  rw [h.scope]
  have := lookup_relabel (env := F.env) e
  rw [show (q == NameKind.free) = false from by cases q <;> simp_all] at this
  exact this
theorem InComp.like {F F₂ F₃ : Fn} {scope : Scope} (h : InComp F F₂ scope) (L : Like F₂ F₃) : InComp F F₃ scope := ⟨L.fok, by rw [L.env]; exact h.scope, fun a m => L.mu a (h.mu a m)⟩
section
variable {C : Base} {k : Nat} {F : Fn} {ρ : Rho}
structure Sees (F : Fn) (scope : Scope) (ρ ρc : Rho) : Prop where
  ok : scopeOK scope = true
  cells : ∀ p ∈ scope.names, p.2 = .free → ∃ c, F.env.cells.lookup p.1 = some c
  flat : ρc.all (fun p => !p.2.isOwn) = true
  sub : ∀ p ∈ ρc, p ∈ ρ ∧ scope.names.lookup p.1 = some .free ∧ (F.env.kindOf p.1 = some .cell ∨ (F.env.kindOf p.1 = some .free ∧ (p.1 == ("__classdict__" : Str)) = false))
theorem comp_run (N : Nat) (H : FOK F) {prog : Program} {A : Around} {s : Shared} {e : Expr} {scope : Scope} {pos : Pos} {target iter : Expr} {ifs : List Expr} {gs : List Comprehension} {newAcc : Sem Value} {obj : Obj} {use : Option (Value → Sem Unit)}
    {Q : Value → Shared → Prop} {E : Value → Shared → Prop} {ds out : List D} {ρc : Rho} {P : Fn → Rho → D → Prop} {J : Addr → (Addr → Prop) → List D → Heap → Prop} (hA : Rm k A) (hs : St C F ρ s) (hsrc : SrcE C k F ρ iter target ds) (hsee : Sees F scope ρ ρc)
    (hcl : clausesOf e = ⟨target, iter, ifs, 0⟩ :: gs) (hfs : ∀ x, foldedSetIterable iter F.env x = pure x)
    (em : Value → Env → Sem Unit) (he : ∀ (B : Addr) env, IsComp (⟨target, iter, ifs, 0⟩ :: gs) (.ref B) env e (em (.ref B) env))
    (hnew : ∀ (s : Shared) (Q : Value → Shared → Prop) (E : Value → Shared → Prop), Q (.ref s.heap.objs.size) { s with heap := s.heap.push obj } → wpAny (model prog C.w) A newAcc Q E s) (hfr : obj.isFreed = false) (hob : ∀ vs q t, obj.data = .fields vs → vs[1]? ≠ some (.str q t))
    (hJ : ∀ B Mu Mu' ys h h', J B Mu ys h → (∀ a o, vis Mu h a o → vis Mu' h' a o) → h'.get? B = h.get? B → J B Mu' ys h')
    (hJ0 : ∀ B Mu h, h.get? B = some obj → J B Mu [] h)
    (hem : ∀ B F₂ ρ y s ys, (ys ++ [y]).length ≤ N → CF F₂ B → P F₂ ρ y → St C F₂ ρ s → J B F₂.Mu ys s.heap → wpAny (model prog C.w) A (em (.ref B) F₂.env) (fun _ s' => St C F₂ ρ s' ∧ J B F₂.Mu (ys ++ [y]) s'.heap) NoE s)
    (hN : out.length ≤ N) (hL : ∀ F₂, InComp F F₂ scope → CL C k P F₂ ρc target ifs gs ds out)
    (hfin : ∀ (B Cx : Addr) s' m, s.heap.get? B = none → s.heap.get? Cx = none → B ≠ Cx → Step s s' → s'.heap.Ns Cx m → ¬ isTab Cx → (∀ P l1 l2 c', isTab P → s'.heap.get? P = some (tabObj #[l1, l2, .ref c']) → c' ≠ Cx) →
      J B (fun a => F.Mu a ∨ a = Cx ∨ a = B) out s'.heap → compPost (model prog C.w) A E use Q (.ref B) Cx (.ok .next) s') :
    wpAny (model prog C.w) A (comprehension e scope F.env pos newAcc false (eval iter F.env) use) Q E s := by
  have hok := hsee.ok
  simp only [scopeOK, Bool.and_eq_true, beq_iff_eq, List.all_eq_true, bne_iff_ne, Bool.or_eq_true] at hok
  obtain ⟨⟨hkind, hcell⟩, hloc⟩ := hok
  have hclos := closureFor_eq hsee.cells
  refine wpAny_comprehension_free hcl hfs hclos hkind (fun x hx hl => (hloc x hx).resolve_left fun q => q hl) ?_
  refine hsrc.run _ _ _ _ _ hA hs fun I s₂ wr rd Sx S hrd y hf hc hx => ?_
  refine hnew _ _ _ (wpAny_newFunctionEnv hcell (fun p hp => by cases hp) (fun h₁ hns hsb => ?_) hkind)
  -- the two new things
  have hBn : s₂.heap.get? s₂.heap.objs.size = none := fresh_none _
  have hCn : s₂.heap.get? (s₂.heap.push obj).objs.size = none := none_of_le (by rw [Heap.size_push]; exact Nat.le_succ _)
  have hBC : s₂.heap.objs.size ≠ (s₂.heap.push obj).objs.size := by rw [Heap.size_push]; exact Nat.ne_of_lt (Nat.lt_succ_self _)
  have k₁ : ∀ a o, s₂.heap.get? a = some o → h₁.get? a = some o := fun a o x => hsb.extBut a o (fun q => by rw [q, hCn] at x; cases x) (Heap.get?_push_of_some _ (Heap.get?_push_of_some _ x))
  have kB : h₁.get? s₂.heap.objs.size = some obj := hsb.extBut _ _ hBC (Heap.get?_push_of_some _ (Heap.get?_push_size _ hfr))
  generalize hBe : s₂.heap.objs.size = B at *
  generalize hCe : (s₂.heap.push obj).objs.size = Cx at *
  have y₁ : Step s { s₂ with heap := h₁, toks := s₂.toks + 0 } := y.trans (Step.of k₁)
  have hs₁ := hs.step y₁ H.nt
  have nB : s.heap.get? B = none := y.none_of hs.ok.tabs hBn
  have nC : s.heap.get? Cx = none := y.none_of hs.ok.tabs hCn
  have W := WrOK.of H hs hf
  have tbl : ∀ a, isTab a → ∃ o, s.heap.get? a = some o := tab_live hs.ok.tabs
  have wB : ¬ wr B := fun w => by obtain ⟨o, e⟩ := S.live _ _ hx B (.inl w); rw [hBn] at e; cases e
  have wC : ¬ wr Cx := fun w => by obtain ⟨o, e⟩ := S.live _ _ hx Cx (.inl w); rw [hCn] at e; cases e
  have nsC : ∃ o, h₁.get? Cx = some o := let ⟨o, _, _, e, _⟩ := hns; ⟨o, e⟩
  let F₁ : Fn := ⟨compEnvC scope (closL F.env scope.names []) Cx F.env, fun a => F.Mu a ∨ a = Cx ∨ a = B, fun a o => ¬ isTab a ∧ s.heap.get? a = some o, s.heap, fun a => a = Cx⟩
  have fok : FOK F₁ := ⟨⟨hkind, rfl, fun a h => .inr (.inl h), fun a o e q => (by
    have e2 : s.heap.get? a = some o := e.2
    rw [show a = Cx from q, nC] at e2; cases e2), H.glob, H.bi⟩, fun a o e => e.1⟩
  have IC : InComp F F₁ scope := ⟨fok, rfl, fun a => .inl⟩
  have K : CF F₁ B := ⟨fok, .inr (.inr rfl), hBC, fun a o e q => (by
    have e2 : s.heap.get? a = some o := e.2
    rw [q, nB] at e2; cases e2), fun t => (by obtain ⟨o, e⟩ := tbl B t; rw [nB] at e; cases e)⟩
  have ntC : ¬ isTab Cx := fun t => by obtain ⟨o, e⟩ := tbl Cx t; rw [nC] at e; cases e
  have W₁ : WrOK C F₁ wr := ⟨W.tab, fun a o e w => (by have e2 : s.heap.get? a = some o := e.2; rw [hf a w] at e2; cases e2), wC, fun x c e => W.cells x c (closL_lookup hsee.cells e), W.hb, fun a h w => wC (show wr Cx from (show a = Cx from h) ▸ w),
    fun a h w => h.elim (fun h => W.mu a h w) fun h => h.elim (fun h => wC (h ▸ w)) fun h => wB (h ▸ w), fun a o e w => (by
      have e2 : s.heap.get? a = some o := e
      rw [hf a w] at e2; cases e2)⟩
  have hbn : ∀ a, s.heap.get? a = none → C.hb.get? a = none := fun a h => by
    cases q : C.hb.get? a with
    | none => rfl
    | some o => rw [hs.ok.keep a o q] at h; cases h
  have ok₁ : OK C (F₁.grow wr).Mu { s₂ with heap := h₁, toks := s₂.toks + 0 } := by
    refine (hs₁.ok.add (fun a => a = Cx ∨ a = B ∨ wr a) ?_ ?_ ?_).less ?_ ?_
    · rintro a (rfl | rfl | w)
      · exact hbn _ nC
      · exact hbn _ nB
      · exact hbn _ (hf a w)
    · rintro a (rfl | rfl | w)
      · exact nsC
      · exact ⟨_, kB⟩
      · obtain ⟨o, e⟩ := S.live _ _ hx a (.inl w)
        exact ⟨o, k₁ a o e⟩
    · rintro a (rfl | rfl | w) q
      · obtain ⟨o, es, ep, e, hd, _⟩ := hns
        exact notCode e (fun vs q t hf => by rw [hd] at hf; cases hf) q
      · exact notCode kB hob q
      · intro cr
        obtain ⟨o, e⟩ := S.live _ _ hx a (.inl w)
        refine hc a w q ?_
        obtain ⟨c, oc, vs, tq, e1, e2, e3, e4⟩ := cr
        cases e1
        rw [k₁ a o e] at e2; cases e2
        exact ⟨a, o, vs, tq, rfl, e, e3, e4⟩
    · rintro a ((h | h | h) | h)
      · exact .inl h
      · exact .inr (.inl h)
      · exact .inr (.inr (.inl h))
      · exact .inr (.inr (.inr h))
    · intro a t; exact .inl (.inl (hs.ok.tab a t))
  have lvn : ∀ a o, s.heap.get? a = some o → a ≠ Cx ∧ a ≠ B ∧ ¬ wr a := fun a o e => by
    refine ⟨fun q => ?_, fun q => ?_, fun w => ?_⟩
    · rw [q, nC] at e; cases e
    · rw [q, nB] at e; cases e
    · rw [hf a w] at e; cases e
  have vm : ∀ a o, vis F.Mu s.heap a o → vis (F₁.grow wr).Mu h₁ a o := fun a o v => ⟨fun hm => hm.elim (fun hm => hm.elim v.1 fun hm => hm.elim (lvn a o v.2).1 (lvn a o v.2).2.1) (lvn a o v.2).2.2, y₁.keep a o (fun t => v.1 (hs.ok.tab a t)) v.2⟩
  have st : St C (F₁.grow wr) ρc { s₂ with heap := h₁, toks := s₂.toks + 0 } := by
    refine ⟨ok₁, fun a o e => y₁.keep a o e.1 e.2, y₁.since hs.ok.tabs, fun x c e => ?_, _, hns, fun p hp => ?_⟩
    · obtain ⟨v, hv⟩ := hs.cells x c (closL_lookup hsee.cells e)
      exact ⟨v, cell_step y₁ hs.ok.tabs hv⟩
    · obtain ⟨hp1, lk, kdx⟩ := hsee.sub p hp
      obtain ⟨m₀, n₀, hh⟩ := hs.fr
      obtain ⟨v, r, a⟩ := hh p hp1
      refine ⟨v, .of ((r.rep (by have := List.all_eq_true.mp hsee.flat p hp; simpa using this)).mono vm), .inr ?_⟩
      obtain ⟨c, hc1, hc2⟩ := closL_free hsee.cells (lookup_mem lk)
      have hcell' : s.heap.IsCell c (some v) := by
        rcases a with ⟨h1, _⟩ | ⟨_, c', h2, h3⟩
        · rcases kdx with q | ⟨q, _⟩ <;> rw [h1] at q <;> cases q
        · rw [hc2] at h2; cases h2; exact h3
      refine ⟨?_, c, hc1, cell_step y₁ hs.ok.tabs hcell'⟩
      have hk₁ : F₁.env.kindOf p.1 = some (if (NameKind.free == NameKind.free && F.env.scope.kind == .function && F.env.kindOf p.1 == some .cell) then .cell else .free) := lookup_relabel (env := F.env) lk
      rw [H.kind] at hk₁
      rcases kdx with q | ⟨q, nq⟩
      · rw [q] at hk₁; exact .inl hk₁
      · rw [q] at hk₁; exact .inr ⟨hk₁, nq⟩
  have hx₁ : Sx 0 h₁ := S.frame _ _ _ hx fun a o _ e => k₁ a o e
  have hrd' : ∀ a, rd a → ¬ F₁.Mu a := fun a r hm => by
    obtain ⟨o, e⟩ := S.live _ _ hx a (.inr r)
    rcases hm with hm | rfl | rfl
    · exact hrd a r hm
    · rw [hCn] at e; cases e
    · rw [hBn] at e; cases e
  have go := compGo N F₁ (he B F₁.env) (hJ B) (fun F ρ y s ys n e K p st j => by have := hem B F ρ y s ys n K p st j; rw [e] at this; exact this) hA (hL F₁ IC) F₁ 0 iter ⟨rfl, rfl, fun _ => id, fok⟩ rfl K rfl rfl I wr rd Sx
    { s₂ with heap := h₁, toks := s₂.toks + 0 } [] (compPost (model prog C.w) A E use Q (.ref B) Cx) S hrd' W₁ st hx₁ (hJ0 _ _ _ kB) (by simpa using hN) fun s' st' j' => by
      obtain ⟨m', n', _⟩ := st'.fr
      exact hfin B Cx s' m' nB nC hBC ⟨fun a o nt e => st'.kept a o ⟨nt, e⟩, fun _ => ⟨st'.ok.tabs, st'.since.tabc⟩, st'.ok.gens.trans hs.ok.gens.symm, st'.ok.os.trans hs.ok.os.symm⟩ n' ntC (fun P l1 l2 c' hP e q => st'.ok.code P l1 l2 c' hP e (q ▸ .inr (.inl rfl))) (by simpa using j')
  exact my_compStart (he B F₁.env) rfl go (S.self _ _ _ _ hx₁ go)
end
section
variable {C : Base} {k : Nat} {F : Fn} {ρ : Rho}
theorem St.atB {B : Addr} (K : CF F B) {s : Shared} {h' : Heap} {tk : Nat} (hs : St C F ρ s) (hsb : Heap.SameBut B s.heap h') (hl : ∃ o, h'.get? B = some o) (hc : ∀ v, ¬ s.heap.IsCell B v) : St C F ρ { s with heap := h', toks := tk } := by
  obtain ⟨m, n, hh⟩ := hs.fr
  have hL : F.env.locals ≠ B := fun q => K.own (q ▸ K.fok.ownL)
  have cl : ∀ c v, s.heap.IsCell c v → h'.IsCell c v := fun c v e => e.sameBut hsb fun q => hc v (q ▸ e)
  refine ⟨hs.ok.upd K.mu K.nt hsb hl, fun a o e => (hsb.2 a (K.kp a o e)).trans (hs.kept a o e), hs.since.trans (Since.sameBut K.nt hsb hl), fun x c e => let ⟨v, hv⟩ := hs.cells x c e; ⟨v, cl c v hv⟩, m, n.sameBut hsb hL, fun p hp => (hh p hp).mono rfl (vis_upd K.mu hsb) (fun a ob w _ e => ⟨w, (hsb.2 a fun q => K.own (q ▸ w)).trans e⟩) fun c v _ e => cl c _ e⟩
noncomputable def Jl (B : Addr) (Mu : Addr → Prop) (ys : List D) (h : Heap) : Prop := ∃ vs n, h.get? B = some (listO vs n) ∧ RepL (vis Mu h) vs ys
theorem Jl.fr {B : Addr} {Mu Mu' : Addr → Prop} {ys : List D} {h h' : Heap} (j : Jl B Mu ys h) (hv : ∀ a o, vis Mu h a o → vis Mu' h' a o) (hb : h'.get? B = h.get? B) : Jl B Mu' ys h' := by
  obtain ⟨vs, n, e, r⟩ := j
  exact ⟨vs, n, hb.trans e, r.mono hv⟩
theorem Jl.notCell {B : Addr} {Mu : Addr → Prop} {ys : List D} {h : Heap} (j : Jl B Mu ys h) : ∀ v, ¬ h.IsCell B v := fun v ⟨o, e, hd⟩ => by
  obtain ⟨vs, n, e2, _⟩ := j
  rw [e] at e2; cases e2; cases hd
theorem Jl.emit {elt : Expr} {prog : Program} {A : Around} {N : Nat} (hN : N ≤ 2 ^ 24) (hA : Rm k A) {B : Addr} {F : Fn} {ρ : Rho} {y : D} {s : Shared} {ys : List D} (hn : (ys ++ [y]).length ≤ N) (K : CF F B) (he : EV C k F ρ elt y) (hs : St C F ρ s) (j : Jl B F.Mu ys s.heap) :
    wpAny (model prog C.w) A (do let _ ← call (.builtin "list.append") [.ref B, ← eval elt F.env]) (fun _ s' => St C F ρ s' ∧ Jl B F.Mu (ys ++ [y]) s'.heap) NoE s := by
  refine wpAny_bind (he.run _ _ _ _ _ hA hs fun v s₁ y₁ r => ?_)
  have hs₁ := hs.step y₁ K.fok.nt
  have tb := hs.ok.tab
  have j₁ : Jl B F.Mu ys s₁.heap := j.fr (hs.ok.vis y₁) (by
    obtain ⟨vs, n, e, _⟩ := j
    exact (y₁.keep B _ K.nt e).trans e.symm)
  have nc := j₁.notCell
  obtain ⟨vs, n, e, r₁⟩ := j₁
  have hl := r₁.length
  refine wpAny_bind (wpAny_list_append_plain ⟨n, e⟩ (fun h' hp hsb => wpAny_pure ?_) (by rw [sizeLine_eq]; simp at hn ⊢; omega))
  obtain ⟨n', e'⟩ := hp
  have vu := vis_upd K.mu hsb
  refine ⟨hs₁.atB K hsb ⟨_, e'⟩ nc, vs ++ [v], n', ?_, (r₁.mono vu).append (.cons (r.mono vu) .nil)⟩
  rw [e']; simp [listO]
theorem Step.upd {s s' : Shared} {Cx : Addr} {h' : Heap} {tk : Nat} (hn : s.heap.get? Cx = none) (t : TabsOK s.heap) (y : Step s s') (hsb : Heap.SameBut Cx s'.heap h') (ht : ¬ isTab Cx) (hc : ∀ P l1 l2 c', isTab P → s'.heap.get? P = some (tabObj #[l1, l2, .ref c']) → c' ≠ Cx) : Step s { s' with heap := h', toks := tk } := by
  have tb : ∀ P, isTab P → h'.get? P = s'.heap.get? P := fun P hP => hsb.2 P fun q => ht (q ▸ hP)
  have one : ∀ (P line col : Nat) (q : Str), isTab P → TabOK P line col q s'.heap → TabOK P line col q h' := fun P line col q hP t => by
    rcases t with e | ⟨c', n, e, r⟩
    · exact .inl ((tb P hP).trans e)
    · obtain ⟨c₂, oc, vs, tq, e1, e2, e3, e4⟩ := r
      cases e1
      exact .inr ⟨c', n, (tb P hP).trans e, c', oc, vs, tq, rfl, (hsb.2 c' (hc P _ _ c' hP e)).trans e2, e3, e4⟩
  refine ⟨fun a o nt e => (hsb.2 a fun q => by rw [q, hn] at e; cases e).trans (y.keep a o nt e), fun _ => ?_, y.gens, y.os⟩
  obtain ⟨t', tc⟩ := y.tabs t
  refine ⟨⟨one _ _ _ _ (.inl rfl) t'.t1, one _ _ _ _ (.inr rfl) t'.t2⟩, fun P hP => ?_⟩
  rcases tc P hP with e | ⟨l1, l2, c', n, f, e⟩
  · exact .inl ((tb P hP).trans e)
  · exact .inr ⟨l1, l2, c', n, f, (tb P hP).trans e⟩
variable {elt target iter : Expr} {ifs : List Expr} {gs : List Comprehension} {scope : Scope} {pos : Pos} {ds out : List D} {ρc : Rho}
theorem Jl.rep {B Cx : Addr} {Mu : Addr → Prop} {out : List D} {h h' : Heap} (j : Jl B (fun a => Mu a ∨ a = Cx ∨ a = B) out h) (hB : ¬ Mu B) (hBC : B ≠ Cx) (hk : ∀ a, a ≠ Cx → h'.get? a = h.get? a) : Rep (vis Mu h') (.ref B) (.list out) := by
  obtain ⟨vs, n, e, r⟩ := j
  refine .list (n := n) ⟨hB, (hk B hBC).trans e⟩ (r.mono fun a o v => ⟨fun hm => v.1 (.inl hm), (hk a fun q => v.1 (.inr (.inl q))).trans v.2⟩)
theorem EV.lcomp (H : FOK F) (hsrc : SrcE C k F ρ iter target ds) (hsee : Sees F scope ρ ρc) (hN : out.length ≤ 2 ^ 24)
    (hL : ∀ F₂, InComp F F₂ scope → CL C k (fun F ρ y => EV C k F ρ elt y) F₂ ρc target ifs gs ds out) (hfs : ∀ x, foldedSetIterable iter F.env x = pure x := by intro _; rfl) :
    EV C k F ρ (.ListComp elt (⟨target, iter, ifs, 0⟩ :: gs) scope pos) (.list out) := by
  refine EV.mk ?_
  intro prog A s Q E hA hs hQ
  rw [eval_ListComp]
  refine comp_run (2 ^ 24) H (obj := listO [] 0) (J := Jl) (P := fun F ρ y => EV C k F ρ elt y) (newAcc := newList []) hA hs hsrc hsee rfl hfs (fun acc env => do let _ ← call (.builtin "list.append") [acc, ← eval elt env]) (fun B env => .list elt scope _)
    (fun s Q E h => wpAny_newObj_type h) rfl (fun vs q t e => by cases e) (fun B Mu Mu' ys h h' j hv hb => j.fr hv hb) (fun B Mu h e => ⟨[], 0, e, .nil⟩) (fun B F₂ ρ y s ys hn K he hs j => Jl.emit (Nat.le_refl _) hA hn K he hs j) hN hL ?_
  intro B Cx s' m nB nC hBC y ns ntC hcd j
  refine ⟨m, ns, fun h' hsb => ?_⟩
  have hB : ¬ F.Mu B := fun hm => by obtain ⟨o, e⟩ := hs.ok.live B hm; rw [nB] at e; cases e
  exact hQ _ { s' with heap := h', toks := s'.toks } (Step.upd nC hs.ok.tabs y hsb ntC hcd) (j.rep hB hBC fun a h => hsb.2 a h)
theorem XS.asgC {prog : Program} {A : Around} {Q : Flow → Shared → Prop} {E : Value → Shared → Prop} {rest : List Stmt} {y : Str} {py spos : Pos} (H : FOK F) (hA : Rm k A) (hsrc : SrcE C k F ρ iter target ds) (hsee : Sees F scope ρ ρc) (hN : out.length ≤ 2 ^ 24)
    (hL : ∀ F₂, InComp F F₂ scope → CL C k (fun F ρ y => EV C k F ρ elt y) F₂ ρc target ifs gs ds out) (hl : F.env.kindOf y = some .local) (hx : ∀ p ∈ ρ, p.1 ≠ y)
    (h : XS prog C A F ((y, .list out) :: ρ) rest Q E)
    (hsw : swapsWith (.ListComp elt (⟨target, iter, ifs, 0⟩ :: gs) scope pos) (some (.Name y py)) spos.line F.env = pure true) (hfs : ∀ x, foldedSetIterable iter F.env x = pure x := by intro _; rfl) :
    XS prog C A F ρ (.Assign [.Name y py] (.ListComp elt (⟨target, iter, ifs, 0⟩ :: gs) scope pos) spos :: rest) Q E := by
  intro s hs
  refine wpAny_execs_cons ?_
  rw [exec_Assign_Name_used _ _ _ _ hsw]
  refine wpAny_bind (wpAny_standAt (wpAny_bind ?_))
  show wpAny _ A (do let _ ← comprehension (.ListComp elt (⟨target, iter, ifs, 0⟩ :: gs) scope pos) scope F.env _ (newList []) false (eval iter F.env) (some (assign (.Name y py) F.env))) _ _ s
  refine wpAny_bind (wpAny_mono (comp_run (2 ^ 24) (Q := fun _ s' => wpAny (model prog C.w) A (execs rest F.env) Q E s') H (obj := listO [] 0) (J := Jl) (P := fun F ρ y => EV C k F ρ elt y) (newAcc := newList []) hA hs hsrc hsee rfl hfs (fun acc env => do let _ ← call (.builtin "list.append") [acc, ← eval elt env]) (fun B env => .list elt scope _)
    (fun s Q E h => wpAny_newObj_type h) rfl (fun vs q t e => by cases e) (fun B Mu Mu' ys h h' j hv hb => j.fr hv hb) (fun B Mu h e => ⟨[], 0, e, .nil⟩) (fun B F₂ ρ y s ys hn K he hs j => Jl.emit (Nat.le_refl _) hA hn K he hs j) hN hL ?_) (fun _ s' hq => wpAny_pure (wpAny_pure hq)) fun _ _ e => e)
  intro B Cx s' m nB nC hBC st ns ntC hcd j
  have hB : ¬ F.Mu B := fun hm => by obtain ⟨o, e⟩ := hs.ok.live B hm; rw [nB] at e; cases e
  have hf : ∀ a, a = Cx → s.heap.get? a = none := fun a q => q ▸ nC
  have W := WrOK.of H hs hf
  have lvC : ∀ a, a = Cx → ∃ o, s'.heap.get? a = some o := fun a q => q ▸ (let ⟨o, _, _, e, _⟩ := ns; ⟨o, e⟩)
  have hg : St C (F.grow (· = Cx)) ρ s' := hs.ingrow H st hf lvC fun a q x => by
    obtain ⟨o, es, ep, e, hd, _⟩ := ns
    rw [q]; exact notCode e (fun vs q t hf => by rw [hd] at hf; cases hf) x
  have HG := (Like.grow H (· = Cx)).fok
  have LB := Like.base HG s'.heap
  have rp : Rep (vis ((F.grow (· = Cx)).base s'.heap).Mu s'.heap) (.ref B) (.list out) := by
    obtain ⟨vs, n, e, r⟩ := j
    exact .list (n := n) ⟨fun hm => hm.elim hB hBC, e⟩ (r.mono fun a o v => ⟨fun hm => v.1 (hm.elim .inl fun q => .inr (.inl q)), v.2⟩)
  refine wpAny_mono ((Asg.name (C := C) (k := k) (ρ := ρ) (x := y) (px := py) (d := .list out) LB.fok (by rw [LB.env]; exact hl) hx).run prog A s' _ _ E hA hg.base rp (fun s₂ h₂ => ?_)) (fun _ _ q => q) fun _ _ q => q
  obtain ⟨oC, esC, epC, eC, hdC, restC⟩ := id ns
  have ntl : ¬ (Cx = F.env.locals) := fun q => W.l q.symm
  have nC₂ : s₂.heap.get? Cx = some oC := h₂.kept Cx oC ⟨ntC, fun w => W.own Cx w rfl, eC⟩
  refine ⟨m, ⟨oC, esC, epC, nC₂, hdC, restC⟩, fun h' hsb => ?_⟩
  have u := (St.unbase HG hg h₂).leave W hs.ok.tab (h' := h') (tk := s₂.toks) fun a o hw e => (hsb.2 a fun q => hw q).trans e
  exact h _ u
end
theorem bindL_spec {ko : Str → Option NameKind} : ∀ {bs : List (Str × Value)} {m : Str → Option Value}, (bs.map (·.1)).Nodup → (∀ x v, (x, v) ∈ bs → ko x = some .local → bindL ko bs m x = some v) ∧ ∀ x, x ∉ bs.map (·.1) → bindL ko bs m x = m x
  | [], m, _ => ⟨fun _ _ h => by simp at h, fun _ _ => rfl⟩
  | (n, w) :: r, m, hd => by
    rw [List.map_cons, List.nodup_cons] at hd
    obtain ⟨i1, i2⟩ := bindL_spec (ko := ko) (bs := r) (m := if ko n = some .local then fun y => if y = n then some w else m y else m) hd.2
    refine ⟨fun x v hm hk => ?_, fun x hx => ?_⟩
    · rcases List.mem_cons.mp hm with e | e
      · cases e
        rw [bindL, i2 _ hd.1, if_pos hk]; simp
      · rw [bindL]; exact i1 x v e hk
    · rw [List.map_cons, List.mem_cons, not_or] at hx
      rw [bindL, i2 x hx.2]
      split
      · simp [hx.1]
      · rfl
theorem bindC_spec {ko : Str → Option NameKind} : ∀ {bs : List (Str × Value)} {m : Str → Option Value}, (bs.map (·.1)).Nodup → (∀ x v, (x, v) ∈ bs → ko x ≠ some .local → bindC ko bs m x = some v) ∧ ∀ x, x ∉ bs.map (·.1) → bindC ko bs m x = m x
  | [], m, _ => ⟨fun _ _ h => by simp at h, fun _ _ => rfl⟩
  | (n, w) :: r, m, hd => by
    rw [List.map_cons, List.nodup_cons] at hd
    obtain ⟨i1, i2⟩ := bindC_spec (ko := ko) (bs := r) (m := if ko n = some .local then m else fun y => if y = n then some w else m y) hd.2
    refine ⟨fun x v hm hk => ?_, fun x hx => ?_⟩
    · rcases List.mem_cons.mp hm with e | e
      · cases e
        rw [bindC, i2 _ hd.1, if_neg hk]; simp
      · rw [bindC]; exact i1 x v e hk
    · rw [List.map_cons, List.mem_cons, not_or] at hx
      rw [bindC, i2 x hx.2]
      split
      · rfl
      · simp [hx.1]
theorem cellsFrom_has : ∀ {ns : List (Str × NameKind)} {n : Nat} {acc : List (Str × Addr)} {x : Str}, ((x, NameKind.cell) ∈ ns ∨ ∃ c, (x, c) ∈ acc) → ∃ c, (x, c) ∈ cellsFrom n ns acc
  | [], _, _, _, h => h.elim (fun h => by cases h) id
  | (y, kd) :: r, n, acc, x, h => by
    unfold cellsFrom
    by_cases hk : (kd == NameKind.cell) = true
    · rw [if_pos hk]
      refine cellsFrom_has ?_
      rcases h with h | ⟨c, h⟩
      · rcases List.mem_cons.mp h with e | e
        · cases e; exact .inr ⟨n, List.mem_cons_self ..⟩
        · exact .inl e
      · exact .inr ⟨c, List.mem_cons_of_mem _ h⟩
    · rw [if_neg hk]
      refine cellsFrom_has ?_
      rcases h with h | h
      · rcases List.mem_cons.mp h with e | e
        · cases e; simp at hk
        · exact .inl e
      · exact .inr h
section
variable {C : Base} {k : Nat} {Mu : Addr → Prop}
theorem TL.defnC {a : Addr} {fd : FuncData} {body : List Stmt} {names : List Str} {ds : List D} {d : D} (hfd : C.FD a = some fd) (hbody : fd.body = .stmts body) (hclo : fd.closure = [])
    (hbind : ∀ vs : List Value, vs.length = ds.length → bindArgs fd ⟨vs, []⟩ = pure (names.zip vs)) (hlen : names.length = ds.length) (hnd : names.Nodup)
    (hloc : ∀ x ∈ names, fd.scope.names.lookup x = some .local ∨ fd.scope.names.lookup x = some .cell)
    (hg : fd.globals = mainGlobals) (hbi : fd.builtins = builtinsNs) (hco : fd.scope.isCoroutine = false) (hgen : fd.scope.isGenerator = false) (hk : fd.scope.kind = .function)
    (h : ∀ (prog : Program) (A : Around) (F : Fn) (L : Addr) (h₀ : Heap), F.env = callEnvC fd L a → Made C Mu h₀ F → (∀ x, fd.scope.names.lookup x = some .cell → ∃ c, CellOK F x c) → Rm k A →
      XS prog C A F (names.zip ds) body (Ret C F d) NoE) :
    TL C (k + 1) Mu ds (fun vs => call (.ref a) vs) d := by
  refine TL.mk ?_
  intro prog A s vs Q E hA ho r hQ
  obtain ⟨o, hobj, hdat, hcd⟩ := C.fn _ _ hfd
  have hl := r.length
  have has : ∀ x, fd.scope.names.lookup x = some .cell → ∃ c, (cellsFrom (s.heap.objs.size + 1) fd.scope.names []).lookup x = some c := fun x hx => by
    obtain ⟨c, hc⟩ := cellsFrom_has (n := s.heap.objs.size + 1) (acc := []) (.inl (lookup_mem hx))
    exact mem_lookup hc
  refine wpAny_call (codeAny_call_cells hA.room (ho.keep _ _ hobj) hdat (C.nolimit.keeps ho.keep) (hcd.keeps ho.keep) hbody (hbind vs hl) hclo (fun x hx => ?_) (fun s₁ x₁ => ?_) hco hgen hk)
  · rcases hloc _ (List.of_mem_zip hx).1 with q | q
    · exact .inl q
    · obtain ⟨c, hc⟩ := has _ q
      exact .inr ⟨q, by rw [hc]; rfl⟩
  obtain ⟨h₁, tk₁, e₁⟩ := x₁.toInCall.same
  have kp : ∀ b ob, s.heap.get? b = some ob → h₁.get? b = some ob := fun b ob e => by have := x₁.toInCall.keep b ob e; rw [e₁] at this; exact this
  have hns : h₁.Ns s.heap.objs.size (bindL (callEnvC fd s.heap.objs.size a).kindOf (names.zip vs) fun _ => none) := by have := x₁.toInCall.ns; rw [e₁] at this; exact this
  have hcs : ∀ n c, (callEnvC fd s.heap.objs.size a).cells.lookup n = some c → h₁.IsCell c (bindC (callEnvC fd s.heap.objs.size a).kindOf (names.zip vs) (fun _ => none) n) := fun n c e => by have := x₁.cell n c e; rw [e₁] at this; exact this
  have hap := x₁.apart
  have hab : ∀ n c, (callEnvC fd s.heap.objs.size a).cells.lookup n = some c → s.heap.objs.size < c := fun n c e => x₁.above n c (lookup_mem e)
  subst e₁
  let own : Addr → Prop := fun b => b = s.heap.objs.size ∨ ∃ x, (callEnvC fd s.heap.objs.size a).cells.lookup x = some b
  have on : ∀ b, own b → s.heap.get? b = none := by
    rintro b (rfl | ⟨x, e⟩)
    · exact none_of_le (Nat.le_refl _)
    · exact none_of_le (Nat.le_of_lt (hab x b e))
  let F : Fn := ⟨callEnvC fd s.heap.objs.size a, fun b => Mu b ∨ own b, fun b ob => ¬ isTab b ∧ s.heap.get? b = some ob, s.heap, own⟩
  have M : Made C Mu s.heap F := ⟨⟨⟨hk, .inl rfl, fun b hb => .inr hb, fun b ob e hb => (by
    have h2 : s.heap.get? b = some ob := e.2
    rw [on b hb] at h2; cases h2), hg, hbi⟩, fun b ob e => e.1⟩, fun b hb => .inl hb, fun b ob nt e => ⟨nt, e⟩, rfl, fun b hb => hb, fun b t => .inl (ho.tab b t)⟩
  have ol : ∀ b, own b → ∃ ob, h₁.get? b = some ob := by
    rintro b (rfl | ⟨x, e⟩)
    · obtain ⟨ob, _, _, e, _⟩ := hns; exact ⟨ob, e⟩
    · obtain ⟨ob, e, _⟩ := hcs x b e; exact ⟨ob, e⟩
  have oc : ∀ b, own b → ∀ q, ¬ h₁.CodeRec (.ref b) q := by
    rintro b (rfl | ⟨x, e⟩)
    · obtain ⟨ob, es, ep, e, hd, _⟩ := hns
      exact notCode e fun vs q t hf => by rw [hd] at hf; cases hf
    · obtain ⟨ob, e, hd⟩ := hcs x b e
      exact notCode e fun vs q t hf => by rw [hd] at hf; cases hf
  have ok1 : OK C F.Mu { s with heap := h₁, toks := tk₁ } := (ho.step (Step.of kp)).add own
    (fun b hb => by
      cases q : C.hb.get? b with
      | none => rfl
      | some ob => have := ho.keep _ _ q; rw [on b hb] at this; cases this) ol oc
  have hv : ∀ b ob, vis Mu s.heap b ob → vis F.Mu h₁ b ob := fun b ob v => ⟨fun hm => hm.elim v.1 fun q => (by
    have h2 := v.2
    rw [on b q] at h2; cases h2), kp _ _ v.2⟩
  have hnd' : ((names.zip vs).map (·.1)).Nodup := by rw [List.map_fst_zip (by omega)]; exact hnd
  have st : St C F (names.zip ds) { s with heap := h₁, toks := tk₁ } := by
    refine ⟨ok1, fun b ob e => kp b ob e.2, ⟨fun b ob e => ⟨ob, kp b ob e⟩, fun P hP => .inl ?_⟩, fun x c e => ⟨_, hcs x c e⟩, _, hns, fun p hp => ?_⟩
    · obtain ⟨ob, e⟩ := tab_live ho.tabs P hP
      exact (kp _ _ e).trans e.symm
    · obtain ⟨v, rv, lk⟩ := r.zipHas (by omega) hnd p hp
      have hm : (p.1, v) ∈ names.zip vs := List.mem_reverse.mp (lookup_mem lk)
      refine ⟨v, .of (rv.mono hv), ?_⟩
      rcases hloc _ (List.of_mem_zip hp).1 with q | q
      · exact .inl ⟨q, (bindL_spec hnd').1 _ _ hm q⟩
      · obtain ⟨c, hc⟩ := has _ q
        refine .inr ⟨.inl q, c, hc, ?_⟩
        have := hcs p.1 c hc
        rw [(bindC_spec (ko := (callEnvC fd s.heap.objs.size a).kindOf) hnd').1 _ _ hm (fun e => by rw [show (callEnvC fd s.heap.objs.size a).kindOf p.1 = some NameKind.cell from q] at e; cases e)] at this
        exact this
  refine wpAny_mono (h prog _ F _ _ rfl M (fun x hx => ?_) hA.deeper _ st) (fun f s' q => ?_) fun _ _ q => q.elim
  · obtain ⟨c, hc⟩ := has x hx
    exact ⟨c, hx, hc, .inr ⟨x, hc⟩, fun y hy => name_of_addr hap (lookup_mem hy) (lookup_mem hc)⟩
  obtain ⟨v, rfl, st', rv⟩ := q
  exact hQ v s' (M.step ho st') (rv.mono fun b ob v => ⟨fun hm => v.1 (.inl hm), v.2⟩)
end
structure Sub (F₀ F : Fn) : Prop where
  env : F.env = F₀.env
  h0 : F.h₀ = F₀.h₀
  kp : ∀ a o, F₀.Kp a o → F.Kp a o
  fok : FOK F
  tab : ∀ a, isTab a → F₀.Mu a
  mu : ∀ a, F₀.Mu a → F.Mu a
  new : ∀ a, F.own a → F₀.own a ∨ ¬ F₀.Mu a
theorem Sub.refl {C : Base} {Mu : Addr → Prop} {h₀ : Heap} {F : Fn} (M : Made C Mu h₀ F) : Sub F F := ⟨rfl, rfl, fun _ _ e => e, M.fok, M.tab, fun _ => id, fun _ => .inl⟩
theorem Ret.up {C : Base} {F₀ F : Fn} (S : Sub F₀ F) {ρ : Rho} {d : D} : ∀ v s, St C F ρ s → Rep (vis F.Mu s.heap) v d → Ret C F₀ d (.ret v) s := fun v s hs r => by
  obtain ⟨m, n, hh⟩ := hs.fr
  refine ⟨v, rfl, ⟨hs.ok.less S.mu S.tab, fun a o e => hs.kept a o (S.kp a o e), by rw [← S.h0]; exact hs.since, fun x c e => hs.cells x c (by rw [S.env]; exact e), m, by rw [← S.env]; exact n, fun _ h => nomatch h⟩, r.mono fun a o v => ⟨fun hm => v.1 (S.mu a hm), v.2⟩⟩
noncomputable def Fn.addOwn (F : Fn) (l : Addr) : Fn := { F with Mu := fun a => F.Mu a ∨ a = l, own := fun a => F.own a ∨ a = l }
noncomputable def Fn.dropOwn (F : Fn) (l : Addr) : Fn := { F with Mu := fun a => F.Mu a ∧ a ≠ l, own := fun a => F.own a ∧ a ≠ l }
theorem Sub.add {F₀ F : Fn} (S : Sub F₀ F) {l : Addr} (h1 : ¬ F.Mu l) (h2 : ∀ a o, F.Kp a o → a ≠ l) : Sub F₀ (F.addOwn l) :=
  ⟨S.env, S.h0, S.kp, ⟨⟨S.fok.kind, .inl S.fok.ownL, fun a h => h.elim (fun h => .inl (S.fok.ownMu a h)) .inr, fun a o e h => h.elim (S.fok.ownKp a o e) (h2 a o e), S.fok.glob, S.fok.bi⟩, S.fok.nt⟩, S.tab, fun a h => .inl (S.mu a h), fun a h => h.elim (S.new a) fun q => .inr fun hm => h1 (q ▸ S.mu a hm)⟩
theorem FOK.drop {F : Fn} (H : FOK F) {l : Addr} (h1 : F.env.locals ≠ l) : FOK (F.dropOwn l) :=
  ⟨⟨H.kind, ⟨H.ownL, h1⟩, fun a h => ⟨H.ownMu a h.1, h.2⟩, fun a o e h => H.ownKp a o e h.1, H.glob, H.bi⟩, H.nt⟩
theorem Sub.drop {F₀ F : Fn} (S : Sub F₀ F) {l : Addr} (h1 : F.env.locals ≠ l) (h2 : ¬ F₀.Mu l) : Sub F₀ (F.dropOwn l) :=
  ⟨S.env, S.h0, S.kp, S.fok.drop h1, S.tab, fun a h => ⟨S.mu a h, fun q => h2 (q ▸ h)⟩, fun a h => S.new a h.1⟩
noncomputable def D.flat : D → Bool
  | .none => true
  | .bool _ => true
  | .int _ => true
  | .str _ => true
  | _ => false
theorem Rep.flat {g g' : Vis} {v : Value} {d : D} (r : Rep g v d) (h : d.flat = true) : Rep g' v d := by
  cases d with
  | none => rw [r.none_i]; exact .none
  | bool b => rw [r.bool_i]; exact .bool b
  | int i => obtain ⟨t, rfl⟩ := r.int_i; exact .int i t
  | str l => obtain ⟨t, rfl⟩ := r.str_i; exact .str l t
  | _ => cases h
section
variable {C : Base} {k : Nat} {F : Fn} {ρ : Rho}
@[irreducible] noncomputable def EVF (C : Base) (k : Nat) (F : Fn) (ρ : Rho) (e : Expr) (ds : List D) : Prop :=
  ∀ (prog : Program) (A : Around) (s : Shared) (Q : Value → Shared → Prop) (E : Value → Shared → Prop), Rm k A → St C F ρ s →
    (∀ l vs n s', Step s s' → s.heap.get? l = none → s'.heap.get? l = some (listO vs n) → RepL (vis F.Mu s'.heap) vs ds → Q (.ref l) s') → wpAny (model prog C.w) A (eval e F.env) Q E s
theorem EVF.mk {e : Expr} {ds : List D} (h : ∀ (prog : Program) (A : Around) (s : Shared) (Q : Value → Shared → Prop) (E : Value → Shared → Prop), Rm k A → St C F ρ s →
    (∀ l vs n s', Step s s' → s.heap.get? l = none → s'.heap.get? l = some (listO vs n) → RepL (vis F.Mu s'.heap) vs ds → Q (.ref l) s') → wpAny (model prog C.w) A (eval e F.env) Q E s) : EVF C k F ρ e ds := by unfold EVF; exact h
theorem EVF.run {e : Expr} {ds : List D} (h : EVF C k F ρ e ds) : ∀ (prog : Program) (A : Around) (s : Shared) (Q : Value → Shared → Prop) (E : Value → Shared → Prop), Rm k A → St C F ρ s →
    (∀ l vs n s', Step s s' → s.heap.get? l = none → s'.heap.get? l = some (listO vs n) → RepL (vis F.Mu s'.heap) vs ds → Q (.ref l) s') → wpAny (model prog C.w) A (eval e F.env) Q E s := by unfold EVF at h; exact h
theorem EVF.lst {es : List Expr} {pos} {ds : List D} (h : EVs C k F ρ es ds) (hn : ds.length ≤ 4096 := by decide) : EVF C k F ρ (.List es pos) ds := by
  refine EVF.mk ?_
  intro prog A s Q E hA hs hQ
  refine List_ (h.run _ _ _ _ _ _ hA hs fun vs s1 y1 r1 => ?_)
  have e1 := r1.length
  refine wpAny_newObj_type (hQ _ vs 0 _ (y1.trans Step.push') (y1.none_of hs.ok.tabs (fresh_none _)) (Heap.get?_push_size _ rfl) (r1.mono ((hs.ok.step y1).vis Step.push'))) ?_
  show vs.toArray.size ≤ sizeLine
  rw [sizeLine_eq]; simp; omega
theorem EVF.mull (H : FOK F) {l r : Expr} {pos} {xs : List D} {n : Int} (h1 : EV C k F ρ l (.list xs)) (h2 : EV C k F ρ r (.int n)) (h0 : 0 ≤ n) (hn : n ≤ 2 ^ 24) (h : xs.length * n.toNat ≤ 2 ^ 24) : EVF C k F ρ (.BinOp l .Mult r pos) (List.replicate n.toNat xs).flatten := by
  refine EVF.mk ?_
  intro prog A s Q E hA hs hQ
  refine wpAny_BinOp (h1.run _ _ _ _ _ hA hs fun v1 s1 y1 r1 => ?_)
  have hs1 := hs.step y1 H.nt
  refine h2.run _ _ _ _ _ hA hs1 fun v2 s2 y2 r2 => ?_
  have hs2 := hs1.step y2 H.nt
  obtain ⟨t2, rfl⟩ := r2.int_i
  obtain ⟨a, m, vs, rfl, a1, b1⟩ := (r1.mono (hs1.ok.vis y2)).list_i
  have hl := b1.length
  have e : (List.replicate (if vs.toArray.isEmpty = true then 0 else n.toNat) vs.toArray).foldl (· ++ ·) #[] = (List.replicate n.toNat vs).flatten.toArray := by
    rw [← foldl_reps]
    cases vs with
    | nil => simp [foldl_reps]
    | cons v r => simp
  refine mul_list_at a1.2 (by omega) (by omega) (by simp; rw [hl]; exact h) ?_
  rw [e]
  exact hQ _ _ 0 _ (y1.trans (y2.trans Step.push')) ((y1.trans y2).none_of hs.ok.tabs (fresh_none _)) (Heap.get?_push_size _ rfl) ((b1.replicate _).mono (hs2.ok.vis Step.push'))
variable {prog : Program} {A : Around} {Q : Flow → Shared → Prop} {E : Value → Shared → Prop} {rest : List Stmt}
theorem RepL.flat {g g' : Vis} {vs : List Value} {ds : List D} (r : RepL g vs ds) (h : ds.all D.flat = true) : RepL g' vs ds := by
  induction ds generalizing vs with
  | nil => rw [r.nil_i]; exact .nil
  | cons d ds ih =>
    obtain ⟨v, ws, rfl, a, t⟩ := r.cons_i
    rw [List.all_cons, Bool.and_eq_true] at h
    exact .cons (a.flat h.1) (ih t h.2)
theorem St.addOwn {s s' : Shared} {l : Addr} {vs : List Value} {n : Nat} (H : FOK F) (hs : St C F ρ s) (y : Step s s') (hn : s.heap.get? l = none) (hl : s'.heap.get? l = some (listO vs n)) : St C (F.addOwn l) ρ s' := by
  have hg : St C (F.grow (· = l)) ρ s' := hs.ingrow H y (fun a q => q ▸ hn) (fun a q => q ▸ ⟨_, hl⟩) fun a q z x => by rw [q] at x; exact notCode hl (fun vs q t e => by cases e) _ x
  obtain ⟨m, nn, hh⟩ := hg.fr
  exact ⟨hg.ok, hg.kept, hg.since, hg.cells, m, nn, fun p hp => (hh p hp).mono (F := F.grow (· = l)) (F₂ := F.addOwn l) rfl (fun _ _ v => v) (fun a o w _ e => ⟨.inl w, e⟩) fun _ _ _ e => e⟩
theorem XS.own {F₀ : Fn} (S : Sub F₀ F) {x : Str} {px pos : Pos} {e : Expr} {ds : List D} (hA : Rm k A) (he : EVF C k F ρ e ds) (hf : ds.all D.flat = true) (hl : F.env.kindOf x = some .local) (hx : ∀ p ∈ ρ, p.1 ≠ x)
    (h : ∀ F₂, Sub F₀ F₂ → XS prog C A F₂ ((x, .own ds) :: ρ) rest Q E) (hsw : swapsWith e (some (.Name x px)) pos.line F.env = pure false := by rfl) : XS prog C A F ρ (.Assign [.Name x px] e pos :: rest) Q E := by
  intro s hs
  have H := S.fok
  refine wpAny_execs_cons (wpAny_Assign_Name (he.run _ _ _ _ _ hA hs fun l vs n s' y hn hv r => ?_) hsw)
  have W := WrOK.of H hs (wr := (· = l)) fun a q => q ▸ hn
  have S₂ := S.add (l := l) (fun hm => W.mu l hm rfl) (fun a o e q => W.kp a o e q)
  exact St.storeV S₂.fok (hs.addOwn H y hn hv) hl (d := .own ds) ⟨l, vs, n, rfl, .inr rfl, hv, r.flat hf⟩ hx fun s2 h2 => h _ S₂ s2 h2
theorem St.ownAt {s : Shared} {x : Str} {ds : List D} (hs : St C F ρ s) (hm : (x, .own ds) ∈ ρ) : ∃ l vs n m, F.own l ∧ s.heap.get? l = some (listO vs n) ∧ RepL (vis F.Mu s.heap) vs ds ∧ s.heap.Ns F.env.locals m ∧ At F s.heap m x (.ref l) ∧ (∀ p ∈ ρ, Has F s.heap m p.1 p.2) ∧ ¬ isTab l ∧ F.env.locals ≠ l := by
  obtain ⟨m, n, hh⟩ := hs.fr
  obtain ⟨v, ⟨l, vs, k, rfl, w, e, r⟩, a⟩ := hh _ hm
  exact ⟨l, vs, k, m, w, e, r, n, a, hh, notTab_seq hs.ok.tabs e rfl, fun q => by
    obtain ⟨o, es, ep, e2, hd, _⟩ := n
    rw [q, e] at e2; cases e2; cases hd⟩
theorem St.mut {s : Shared} {x : Str} {l : Addr} {vs vs' : List Value} {n n' : Nat} {ds' : List D} {m : Str → Option Value} {h' : Heap} {tk : Nat} {ρ' : Rho} (H : FOK F) (hs : St C F ρ s) (w : F.own l) (e : s.heap.get? l = some (listO vs n)) (nn : s.heap.Ns F.env.locals m) (a : At F s.heap m x (.ref l))
    (hh : ∀ p ∈ ρ, Has F s.heap m p.1 p.2) (hsb : Heap.SameBut l s.heap h') (e' : h'.get? l = some (listO vs' n')) (r' : RepL (vis F.Mu s.heap) vs' ds') (hρ : ∀ p ∈ ρ', p ∈ ρ ∧ p.2.isOwn = false) : St C F ((x, .own ds') :: ρ') { s with heap := h', toks := tk } := by
  have nt : ¬ isTab l := notTab_seq hs.ok.tabs e rfl
  have vu := vis_upd (H.ownMu l w) hsb
  have hL : F.env.locals ≠ l := fun q => by
    obtain ⟨o, es, ep, e2, hd, _⟩ := nn
    rw [q, e] at e2; cases e2; cases hd
  have cl : ∀ c v, s.heap.IsCell c v → h'.IsCell c v := fun c v x => x.sameBut hsb fun q => by
    obtain ⟨o, e2, hd⟩ := x
    rw [q, e] at e2; cases e2; cases hd
  have ats : ∀ y v, At F s.heap m y v → At F h' m y v := fun y v q => q.elim .inl fun ⟨h1, c, h2, h3⟩ => .inr ⟨h1, c, h2, cl c _ h3⟩
  refine ⟨hs.ok.upd (H.ownMu l w) nt hsb ⟨_, e'⟩, fun a o e => (hsb.2 a fun q => H.ownKp a o e (q ▸ w)).trans (hs.kept a o e), hs.since.trans (Since.sameBut nt hsb ⟨_, e'⟩), fun x c e => let ⟨v, hv⟩ := hs.cells x c e; ⟨v, cl c v hv⟩, m, nn.sameBut hsb hL, fun p hp => ?_⟩
  rcases List.mem_cons.mp hp with rfl | hp
  · exact ⟨_, ⟨l, vs', n', rfl, w, e', r'.mono vu⟩, ats _ _ a⟩
  · obtain ⟨h1, h2⟩ := hρ p hp
    obtain ⟨v, r, q⟩ := hh p h1
    exact ⟨v, .of ((r.rep h2).mono vu), ats _ _ q⟩
theorem St.drop {s : Shared} {x : Str} {l : Addr} {vs : List Value} {n : Nat} {ds : List D} {m : Str → Option Value} {ρ₂ : Rho} (hs : St C F ρ s) (w : F.own l) (e : s.heap.get? l = some (listO vs n)) (r : RepL (vis F.Mu s.heap) vs ds) (nn : s.heap.Ns F.env.locals m) (a : At F s.heap m x (.ref l))
    (hh : ∀ p ∈ ρ, Has F s.heap m p.1 p.2) (hρ : ∀ p ∈ ρ₂, p = (x, .list ds) ∨ p ∈ ρ ∧ p.2.isOwn = false) : St C (F.dropOwn l) ρ₂ s := by
  have nt : ¬ isTab l := notTab_seq hs.ok.tabs e rfl
  have vu : ∀ a o, vis F.Mu s.heap a o → vis (F.dropOwn l).Mu s.heap a o := fun a o v => ⟨fun hm => v.1 hm.1, v.2⟩
  refine ⟨hs.ok.less (fun a h => h.1) (fun a t => ⟨hs.ok.tab a t, fun q => nt (q ▸ t)⟩), hs.kept, hs.since, hs.cells, m, nn, fun p hp => ?_⟩
  rcases hρ p hp with rfl | ⟨h1, h2⟩
  · exact ⟨_, Rep.list (n := n) ⟨fun hm => hm.2 rfl, e⟩ (r.mono vu), a⟩
  · obtain ⟨v, r, q⟩ := hh p h1
    exact ⟨v, .of ((r.rep h2).mono vu), q⟩
theorem EV.view (H : FOK F) {x : Str} {ds : List D} {e : Expr} {d : D} {ρ₂ : Rho} (hm : (x, .own ds) ∈ ρ) (hd : d.flat = true) (hρ : ∀ p ∈ ρ₂, p = (x, .list ds) ∨ p ∈ ρ ∧ p.2.isOwn = false) (h : ∀ F₂, FOK F₂ → F₂.env = F.env → EV C k F₂ ρ₂ e d) : EV C k F ρ e d := by
  refine EV.mk ?_
  intro prog A s Q E hA hs hQ
  obtain ⟨l, vs, n, m, w, e, r, nn, a, hh, nt, hL⟩ := hs.ownAt hm
  exact (h _ (H.drop hL) rfl).run prog A s Q E hA (hs.drop w e r nn a hh hρ) fun v s' y q => hQ v s' y (q.flat hd)
theorem TT.view (H : FOK F) {x : Str} {ds : List D} {e : Expr} {b : Bool} {ρ₂ : Rho} (hm : (x, .own ds) ∈ ρ) (hρ : ∀ p ∈ ρ₂, p = (x, .list ds) ∨ p ∈ ρ ∧ p.2.isOwn = false) (h : ∀ F₂, FOK F₂ → F₂.env = F.env → TT C k F₂ ρ₂ e b) : TT C k F ρ e b := by
  refine TT.mk ?_
  intro prog A s Q E hA hs hQ
  obtain ⟨l, vs, n, m, w, e, r, nn, a, hh, nt, hL⟩ := hs.ownAt hm
  exact (h _ (H.drop hL) rfl).run prog A s Q E hA (hs.drop w e r nn a hh hρ) hQ
theorem XS.freeze {F₀ : Fn} (S : Sub F₀ F) (hO : ∀ a, F₀.own a → a = F₀.env.locals ∨ ∃ x, F₀.env.cells.lookup x = some a) {x : Str} {ds : List D} {ρ₂ : Rho} {sts : List Stmt} (hm : (x, .own ds) ∈ ρ) (hρ : ∀ p ∈ ρ₂, p = (x, .list ds) ∨ p ∈ ρ ∧ p.2.isOwn = false)
    (h : ∀ F₂, Sub F₀ F₂ → XS prog C A F₂ ρ₂ sts Q E) : XS prog C A F ρ sts Q E := by
  intro s hs
  obtain ⟨l, vs, n, m, w, e, r, nn, a, hh, nt, hL⟩ := hs.ownAt hm
  have hn : ¬ F₀.own l := fun q => by
    rcases hO l q with q | ⟨y, q⟩
    · exact hL (by rw [S.env]; exact q.symm)
    · obtain ⟨v, o, e2, hd⟩ := hs.cells y l (by rw [S.env]; exact q)
      rw [e] at e2; cases e2; cases hd
  exact h _ (S.drop hL ((S.new l w).resolve_left hn)) s (hs.drop w e r nn a hh hρ)
theorem XS.append (H : FOK F) {x : Str} {ds : List D} {e : Expr} {d : D} {px pa pc pos : Pos} {ρ' : Rho} (hA : Rm k A) (hm : (x, .own ds) ∈ ρ) (he : EV C k F ρ e d) (hsz : ds.length < 2 ^ 24) (hk : F.env.kindOf x = some .local) (hρ : ∀ p ∈ ρ', p ∈ ρ ∧ p.2.isOwn = false) (h : XS prog C A F ((x, .own (ds ++ [d])) :: ρ') rest Q E)
    {pl : Sem Bool} (he' : eval (.Call (.Attribute (.Name x px) "append" pa) [e] [] pc) F.env = (do
      let ov ← eval (.Name x px) F.env
      standAt pa.atName
      let (f, first) ← holding [ov] (getMethod ov "append" pl)
      callWith pc f first (backTo pc (starEach [e] F.env)) []) := by rfl) (hp : (backTo pc (starEach [e] F.env)) = [(false, eval e F.env)] := by rfl) (hd : (x == ("__debug__" : Str)) = false := by decide +kernel) :
    XS prog C A F ρ (.Expr (.Call (.Attribute (.Name x px) "append" pa) [e] [] pc) pos :: rest) Q E := by
  intro s hs
  obtain ⟨l, vs, n, m, w, e1, r, nn, a, hh, nt, hL⟩ := hs.ownAt hm
  refine wpAny_execs_cons (wpAny_Expr_any (MethodCall_ (pl := pl) (wpAny_Name ?_ hd) he') (by unfold interactive; rw [H.kind]; rfl))
  rcases a with ⟨h1, h2⟩ | ⟨h1, _⟩
  · refine wpAny_loadName_local H.kind h1 nn h2 (Calls.getMethod_list_append e1 rfl rfl ?_)
    rw [hp]
    refine P.append_list (he.run _ _ _ _ _ hA hs fun v s' y q => ?_)
    have hs' := hs.step y H.nt
    have e2 := y.keep l _ nt e1
    refine ⟨vs.toArray, n, by rw [sizeLine_eq]; have := r.length; simp; omega, e2, h _ ?_⟩
    obtain ⟨n', e3⟩ : ∃ n', (s'.heap.update l (Obj.mapSeq fun xs => xs.push v)).get? l = some (listO (vs ++ [v]) n') := ⟨_, by have := IsL.update (n := n) e2 (fun xs => xs.push v); rw [List.push_toArray] at this; exact this⟩
    exact St.mut H hs' w e2 (ns_step y hs.ok.tabs nn) (.inl ⟨h1, h2⟩) (fun p hp => (hh p hp).step hs.ok y) (Heap.SameBut.update ..) e3 ((r.mono (hs.ok.vis y)).append (.cons q .nil)) hρ
  · rcases h1 with q | ⟨q, _⟩ <;> rw [hk] at q <;> cases q
theorem seqIndex_lt {i : Int} {n j : Nat} (h : seqIndex? i n = some j) : j < n := by
  unfold seqIndex? at h
  simp only [Option.ite_none_right_eq_some, Bool.and_eq_true, decide_eq_true_eq, Option.some.injEq] at h
  omega
theorem kmsList (l : List Value) (k : Nat) (h : k < l.length) : l.toArray.eraseIdxIfInBounds k = (l.eraseIdx k).toArray := by
  unfold Array.eraseIdxIfInBounds
  rw [dif_pos (by simpa using h)]
  simp [List.eraseIdx_toArray]
theorem RepL.erase {g : Vis} {vs : List Value} {ds : List D} (r : RepL g vs ds) (i : Nat) : RepL g (vs.eraseIdx i) (ds.eraseIdx i) := by
  induction ds generalizing vs i with
  | nil => rw [r.nil_i]; exact .nil
  | cons d ds ih =>
    obtain ⟨v, ws, rfl, a, t⟩ := r.cons_i
    cases i with
    | zero => exact t
    | succ i => exact .cons a (ih t i)
theorem RepL.set {g : Vis} {vs : List Value} {ds : List D} {v : Value} {d : D} (r : RepL g vs ds) (q : Rep g v d) (i : Nat) : RepL g (vs.set i v) (ds.set i d) := by
  induction ds generalizing vs i with
  | nil => rw [r.nil_i]; exact .nil
  | cons d ds ih =>
    obtain ⟨w, ws, rfl, a, t⟩ := r.cons_i
    cases i with
    | zero => exact .cons q t
    | succ i => exact .cons a (ih t i)
theorem RepL.rev {g : Vis} {vs : List Value} {ds : List D} (r : RepL g vs ds) : RepL g vs.reverse ds.reverse := by
  induction ds generalizing vs with
  | nil => rw [r.nil_i]; exact .nil
  | cons d ds ih =>
    obtain ⟨w, ws, rfl, a, t⟩ := r.cons_i
    rw [List.reverse_cons, List.reverse_cons]; exact (ih t).append (.cons a .nil)
theorem XS.del (H : FOK F) {x : Str} {ds : List D} {i : Expr} {iv : Int} {j : Nat} {px pa pos : Pos} {ρ' : Rho} (hA : Rm k A) (hm : (x, .own ds) ∈ ρ) (he : EV C k F ρ i (.int iv)) (hj : seqIndex? iv ds.length = some j) (hi : Builtin.List.listFitsIndex iv = true) (hsz : ds.length < 2 ^ 24) (hk : F.env.kindOf x = some .local) (hρ : ∀ p ∈ ρ', p ∈ ρ ∧ p.2.isOwn = false)
    (h : XS prog C A F ((x, .own (ds.eraseIdx j)) :: ρ') rest Q E) (hd : (x == ("__debug__" : Str)) = false := by decide +kernel) :
    XS prog C A F ρ (.Delete [.Subscript (.Name x px) i pa] pos :: rest) Q E := by
  intro s hs
  obtain ⟨l, vs, n, m, w, e1, r, nn, a, hh, nt, hL⟩ := hs.ownAt hm
  refine wpAny_execs_cons (wpAny_Delete (wpAny_deleteEach_cons (wpAny_delete_Subscript (wpAny_Name ?_ hd))))
  rcases a with ⟨h1, h2⟩ | ⟨h1, _⟩
  · refine wpAny_loadName_local H.kind h1 nn h2 (he.run _ _ _ _ _ hA hs fun v s' y q => ?_)
    obtain ⟨t, rfl⟩ := q.int_i
    have hs' := hs.step y H.nt
    have e2 := y.keep l _ nt e1
    have hl := r.length
    have hjl : j < vs.length := by
      have : j < ds.length := by
        exact seqIndex_lt hj
      omega
    refine wpAny_delItem_plain ⟨n, e2⟩ hi (k := j) (by rw [List.size_toArray, hl]; exact hj) (fun h' hp hsb => ?_) (by rw [sizeLine_eq]; simp; omega)
    obtain ⟨n', e3⟩ := hp
    rw [kmsList _ _ hjl] at e3
    refine wpAny_deleteEach_nil (h _ ?_)
    exact St.mut H hs' w e2 (ns_step y hs.ok.tabs nn) (.inl ⟨h1, h2⟩) (fun p hp => (hh p hp).step hs.ok y) hsb e3 ((r.mono (hs.ok.vis y)).erase j) hρ
  · rcases h1 with q | ⟨q, _⟩ <;> rw [hk] at q <;> cases q
end
theorem envAt {S : Scope} {env : Env} {P : Env → Prop} (h : env.scope = S) (hP : ∀ L g c q f cd fr b, P { scope := S, locals := L, globals := g, cells := c, qual := q, func := f, code := cd, frame := fr, builtins := b }) : P env := by
  cases env; subst h; exact hP _ _ _ _ _ _ _ _
section
variable {C : Base} {k : Nat} {F : Fn} {ρ : Rho} {prog : Program} {A : Around} {Q : Flow → Shared → Prop} {E : Value → Shared → Prop} {rest : List Stmt}
theorem XS.asgT (H : FOK F) {ts : List Expr} {n : Nat} {tp pos : Pos} {e : Expr} {ds : List D} {ρ' : Rho} (hA : Rm k A) (he : EV C k F ρ e (.tup ds)) (L : AsgL C k F ρ ts ds ρ') (h : XS prog C A F ρ' rest Q E)
    (hs : swapsWithSole [.Tuple ts n tp] e pos.line F.env = pure false := by rfl) (hw : swappedStores [.Tuple ts n tp] e F.env = pure none := by rfl) : XS prog C A F ρ (.Assign [.Tuple ts n tp] e pos :: rest) Q E := by
  intro s hst
  refine wpAny_execs_cons (Assign_Tuple (he.run _ _ _ _ _ hA hst fun v s' y r => ?_) hs hw)
  exact (Asg.tup H L).run _ _ _ _ _ _ hA (hst.step y H.nt) r fun s2 h2 => h s2 h2
theorem storeAll (H : FOK F) {Q : Unit → Shared → Prop} {names : List Str} : ∀ {vs : List Value} {ds : List D} {ρ : Rho} {s : Shared}, St C F ρ s → RepL (vis F.Mu s.heap) vs ds → names.length = ds.length → (∀ n ∈ names, F.env.kindOf n = some .local) → names.Nodup → (∀ p ∈ ρ, p.1 ∉ names) →
    (∀ s', St C F ((names.zip ds).reverse ++ ρ) s' → Q () s') → wpAny (model prog C.w) A (assignInOrder (names.map fun n => bindName F.env n) vs) Q E s := by
  induction names with
  | nil =>
    intro vs ds ρ s hs r hl _ _ _ hQ
    have : ds = [] := List.eq_nil_of_length_eq_zero (by simpa using hl.symm)
    subst this
    rw [r.nil_i]; exact wpAny_pure (hQ s hs)
  | cons x xs ih =>
    intro vs ds ρ s hs r hl hk hn hx hQ
    cases ds with
    | nil => simp at hl
    | cons d ds =>
      obtain ⟨v, ws, rfl, a, b⟩ := r.cons_i
      rw [List.nodup_cons] at hn
      refine assignInOrder_cons (bindName_ (St.store (Like.base H s.heap).fok hs.base (hk x (List.mem_cons_self ..)) a (fun p hp q => hx p hp (q ▸ List.mem_cons_self ..)) fun s₁ h₁ => ?_))
      refine ih (St.unbase H hs h₁) (b.mono (vis_base H h₁ hs.ok.tab)) (by simpa using hl) (fun n hm => hk n (List.mem_cons_of_mem _ hm)) hn.2 (fun p hp hm => ?_) fun s' h' => hQ s' ?_
      · rcases List.mem_cons.mp hp with rfl | hp
        · exact hn.1 hm
        · exact hx p hp (List.mem_cons_of_mem _ hm)
      · rw [List.zip_cons_cons, List.reverse_cons, List.append_assoc]; exact h'
theorem nodup_rev {α : Type} {l : List α} (h : l.Nodup) : l.reverse.Nodup := by
  unfold List.Nodup at h ⊢
  rw [List.pairwise_reverse]
  exact h.imp fun h q => h q.symm
theorem zip_rev {α β : Type} : ∀ {a : List α} {b : List β}, a.length = b.length → a.reverse.zip b.reverse = (a.zip b).reverse := by
  intro a b h
  rw [List.zip_eq_zipWith, List.zip_eq_zipWith]
  exact (List.reverse_zipWith h).symm
theorem XS.asgS (H : FOK F) {ts : List Expr} {n : Nat} {tp pos : Pos} {e : Expr} {ds : List D} {names : List Str} (hA : Rm k A) (he : EV C k F ρ e (.tup ds)) (hl : names.length = ds.length) (hk : ∀ n ∈ names, F.env.kindOf n = some .local) (hn : names.Nodup) (hx : ∀ p ∈ ρ, p.1 ∉ names)
    (h : XS prog C A F (names.zip ds ++ ρ) rest Q E)
    (hs : swapsWithSole [.Tuple ts n tp] e pos.line F.env = pure false) (hw : swappedStores [.Tuple ts n tp] e F.env = pure (some names)) : XS prog C A F ρ (.Assign [.Tuple ts n tp] e pos :: rest) Q E := by
  intro s hst
  refine wpAny_execs_cons (Assign_Tuple_swapped (he.run _ _ _ _ _ hA hst fun v s' y r => ?_) hs hw)
  obtain ⟨a, m, vs, rfl, x, q⟩ := r.tup_i
  have hv := q.length
  have hst' := hst.step y H.nt
  have e1 : names.length = vs.toArray.size := by rw [List.size_toArray, hv, hl]
  rw [e1]
  refine unpackItems_tuple hA.1 ⟨_, x.2, rfl, _, rfl⟩ fun h' he' => ?_
  have st : Step s' { s' with heap := h', toks := s'.toks } := Step.of fun b o e => he' b o (Nat.ne_of_lt (Heap.lt_size e)) e
  refine storeAll H (hst'.step st H.nt) ((q.mono (hst'.ok.vis st)).rev) (by simp [hl]) (fun n hm => hk n (List.mem_reverse.mp hm)) (nodup_rev hn) (fun p hp hm => hx p hp (List.mem_reverse.mp hm)) fun s2 h2 => h s2 (h2.weaken fun p hp => ?_)
  rcases List.mem_append.mp hp with hp | hp
  · refine List.mem_append_left _ (List.mem_reverse.mpr ?_)
    rw [zip_rev hl]
    exact List.mem_reverse.mpr hp
  · exact List.mem_append_right _ hp
theorem XS.aug (H : FOK F) {x : Str} {px pos : Pos} {op : Operator} {e : Expr} {d1 d2 d : D} {ρ' : Rho} (hA : Rm k A) (hm : (x, d1) ∈ ρ) (ho : d1.isOwn = false) (he : EV C k F ρ e d2) (hop : T2 C k F.Mu d1 d2 (inplaceOp op) d) (hl : F.env.kindOf x = some .local) (hρ : ∀ p ∈ ρ', p ∈ ρ ∧ p.1 ≠ x)
    (h : XS prog C A F ((x, d) :: ρ') rest Q E) : XS prog C A F ρ (.AugAssign (.Name x px) op e pos :: rest) Q E := by
  intro s hs
  obtain ⟨m, n, hh⟩ := hs.fr
  obtain ⟨v, r', a⟩ := hh _ hm
  have r := r'.rep ho
  refine wpAny_execs_cons (wpAny_AugAssign_Name ?_)
  rcases a with ⟨h1, h2⟩ | ⟨h1, _⟩
  · refine wpAny_loadName_local H.kind h1 n h2 (he.run _ _ _ _ _ hA hs fun v2 s2 y2 r2 => ?_)
    have hs2 := hs.step y2 H.nt
    refine hop.run _ _ _ _ _ _ _ hA hs2.ok (r.mono (hs.ok.vis y2)) r2 fun v3 s3 y3 r3 => ?_
    exact St.store H ((hs2.step y3 H.nt).weaken fun p hp => (hρ p hp).1) hl r3 (fun p hp => (hρ p hp).2) fun s4 h4 => h s4 h4
  · rcases h1 with q | ⟨q, _⟩ <;> rw [hl] at q <;> cases q
theorem XS.assert {t : Expr} {msg : Option Expr} {pos : Pos} (H : FOK F) (hA : Rm k A) (ht : TT C k F ρ t true) (h : XS prog C A F ρ rest Q E) : XS prog C A F ρ (.Assert t msg pos :: rest) Q E := by
  intro s hs
  exact wpAny_execs_cons (wpAny_Assert_holds (ht.run _ _ _ _ _ hA hs fun s' y => ⟨rfl, h s' (hs.step y H.nt)⟩))
theorem XS.brk {pos : Pos} (h : ∀ s, St C F ρ s → Q .brk s) : XS prog C A F ρ (.Break pos :: rest) Q E := by
  intro s hs
  exact wpAny_execs_cons (wpAny_Break (h s hs))
end
section
variable {C : Base} {k : Nat} {Mu : Addr → Prop} {a b : Int}
theorem T2.iadd : T2 C k Mu (.int a) (.int b) (inplaceOp .Add) (.int (a + b)) := by
  refine T2.mk ?_
  intro prog A s v1 v2 Q E hA ho h1 h2 hQ; obtain ⟨t1, rfl⟩ := h1.int_i; obtain ⟨t2, rfl⟩ := h2.int_i; exact P.iadd_int (hQ _ _ Step.tok (.int _ _))
theorem T2.isub : T2 C k Mu (.int a) (.int b) (inplaceOp .Sub) (.int (a - b)) := by
  refine T2.mk ?_
  intro prog A s v1 v2 Q E hA ho h1 h2 hQ; obtain ⟨t1, rfl⟩ := h1.int_i; obtain ⟨t2, rfl⟩ := h2.int_i; exact P.isub_int (hQ _ _ Step.tok (.int _ _))
end
structure StepX (X : Addr → Prop) (s s' : Shared) : Prop where
  keep : ∀ a o, ¬ isTab a → ¬ X a → s.heap.get? a = some o → s'.heap.get? a = some o
  live : ∀ a o, s.heap.get? a = some o → ∃ o', s'.heap.get? a = some o'
  tabs : TabsOK s'.heap ∧ TabC s.heap s'.heap
  gens : s'.gens = s.gens
  os : s'.os = s.os
structure ClosAt (C : Base) (Mu X : Addr → Prop) (s : Shared) (fd : FuncData) (f : Addr) (F : Fn) : Prop where
  fok : FOK F
  sc : F.env.scope = fd.scope
  cells : F.env.cells = fd.closure
  code : F.env.code = fd.code
  mu : ∀ a, Mu a → F.Mu a
  kp : ∀ a o, ¬ isTab a → ¬ X a → s.heap.get? a = some o → F.Kp a o
  h₀ : F.h₀ = s.heap
  own : ∀ a, F.own a ↔ a = F.env.locals ∨ X a
  muX : ∀ a, F.Mu a → Mu a ∨ a = F.env.locals
  frame : F.env.frame = some F.env.locals
  fresh : s.heap.get? F.env.locals = none
section
variable {C : Base} {k : Nat} {Mu X : Addr → Prop}
theorem ClosAt.step {fd : FuncData} {f : Addr} {F : Fn} {s s' : Shared} {ρ : Rho} (M : ClosAt C Mu X s fd f F) (o : OK C Mu s) (x : St C F ρ s') : StepX X s s' where
  keep := fun a ob nt nx e => x.kept a ob (M.kp a ob nt nx e)
  live := fun a ob e => x.since.live a ob (by rw [M.h₀]; exact e)
  tabs := ⟨x.ok.tabs, by have := x.since.tabc; rw [M.h₀] at this; exact this⟩
  gens := x.ok.gens.trans o.gens.symm
  os := x.ok.os.trans o.os.symm
noncomputable def valOf : Flow → Value | .ret v => v | _ => .none
noncomputable def freeOK (S : Scope) (ρc : Rho) : Bool := ρc.all fun p => S.names.lookup p.1 == some .free && !(p.1 == ("__classdict__" : Str))
theorem freeOK_at {S : Scope} {ρc : Rho} (h : freeOK S ρc = true) {p : Str × D} (hp : p ∈ ρc) : S.names.lookup p.1 = some .free ∧ (p.1 == ("__classdict__" : Str)) = false := by
  have := List.all_eq_true.mp h p hp
  simp only [Bool.and_eq_true, beq_iff_eq, Bool.not_eq_true'] at this
  exact this
theorem call_closE {prog : Program} {A : Around} {s : Shared} {Q : Value → Shared → Prop} {E : Value → Shared → Prop} {f : Addr} {o : Obj} {fd : FuncData} {body : List Stmt} {names : List Str} {vs : List Value} {ds : List D} {ρc : Rho}
    (hA : Rm (k + 1) A) (ho : OK C Mu s) (hobj : s.heap.get? f = some o) (hdat : o.data = .func fd) (hcd : s.heap.CodeRec fd.code fd.qualname) (hbody : fd.body = .stmts body)
    (hr : ∀ p ∈ names.zip ds, ∃ v, (names.zip vs).reverse.lookup p.1 = some v ∧ ∀ F : Fn, (∀ a, X a → F.own a) → (∀ a o, vis Mu s.heap a o → vis F.Mu s.heap a o) → HasV F s.heap v p.2) (hbind : bindArgs fd ⟨vs, []⟩ = pure (names.zip vs)) (hloc : ∀ x ∈ names, fd.scope.names.lookup x = some .local) (hcell : ∀ x ∈ fd.scope.names, x.2 ≠ .cell)
    (hg : fd.globals = mainGlobals) (hbi : fd.builtins = builtinsNs) (hco : fd.scope.isCoroutine = false) (hgen : fd.scope.isGenerator = false) (hk : fd.scope.kind = .function)
    (hX : ∀ a, X a → Mu a) (hXt : ∀ a, X a → ¬ isTab a) (hcl : ∀ x c, fd.closure.lookup x = some c → ∃ v, s.heap.IsCell c v)
    (hcn : freeOK fd.scope ρc = true) (hc : ∀ p ∈ ρc, ∃ c v, fd.closure.lookup p.1 = some c ∧ s.heap.IsCell c (some v) ∧ ∀ F : Fn, (∀ a, X a → F.own a) → (∀ a o, vis Mu s.heap a o → vis F.Mu s.heap a o) → HasV F s.heap v p.2)
    (h : ∀ F, ClosAt C Mu X s fd f F → Rm k (A.deeper F.env) → XS prog C (A.deeper F.env) F (names.zip ds ++ ρc) body (fun fl s' => Q (valOf fl) s') (fun e s' => wpAny (model prog C.w) (A.deeper F.env) (leaving F.env e) (fun _ s'' => E e s'') (fun e' s'' => E e' s'') s')) :
    wpAny (model prog C.w) A (call (.ref f) vs) Q E s := by
  refine wpAny_call (codeAny_call_function hA.room hobj hdat hco hgen hbody hcd ?_)
  rw [hbind]
  refine wpAny_pure (wpAny_newFunctionEnv hcell (fun x hx => hloc _ (List.of_mem_zip hx).1) (fun h₁ hns hsb => ?_) hk)
  have kp : ∀ b ob, s.heap.get? b = some ob → h₁.get? b = some ob := fun b ob e => hsb.extBut b ob (Nat.ne_of_lt (Heap.lt_size e)) (Heap.get?_push_of_some _ e)
  have hfresh : s.heap.get? s.heap.objs.size = none := fresh_none _
  refine ⟨(C.nolimit.keeps ho.keep).fresh _ hsb, codeAny_func ?_⟩
  have nL : ∀ a, Mu a → a ≠ s.heap.objs.size := fun a hm q => by obtain ⟨ob, e⟩ := ho.live a hm; rw [q, hfresh] at e; cases e
  let F : Fn := ⟨newEnv fd.scope s.heap.objs.size fd.globals fd.closure (fd.qualname ++ ".<locals>.") (some f) fd.code none fd.builtins, fun b => Mu b ∨ b = s.heap.objs.size, fun b ob => ¬ isTab b ∧ ¬ X b ∧ s.heap.get? b = some ob, s.heap, fun b => b = s.heap.objs.size ∨ X b⟩
  have fok : FOK F := ⟨⟨hk, .inl rfl, fun b hb => hb.elim .inr fun x => .inl (hX b x), fun b ob e hb => hb.elim (fun q => by
    have h2 : s.heap.get? b = some ob := e.2.2
    rw [q, hfresh] at h2; cases h2) e.2.1, hg, hbi⟩, fun b ob e => e.1⟩
  have M : ClosAt C Mu X s fd f F := ⟨fok, rfl, rfl, rfl, fun b => .inl, fun b ob nt nx e => ⟨nt, nx, e⟩, rfl, fun a => Iff.rfl, fun a h => h, rfl, hfresh⟩
  have lv : ∃ ob, h₁.get? s.heap.objs.size = some ob := let ⟨ob, _, _, e, _⟩ := hns; ⟨ob, e⟩
  have ok1 : OK C F.Mu { s with heap := h₁, toks := s.toks + (names.zip vs).length } := (ho.step (Step.of kp)).add (fun b => b = s.heap.objs.size)
    (fun b hb => by
      subst hb
      cases q : C.hb.get? s.heap.objs.size with
      | none => rfl
      | some ob => rw [ho.keep _ _ q] at hfresh; cases hfresh)
    (fun b hb => by subst hb; exact lv)
    (fun b hb => by
      subst hb
      obtain ⟨ob, es, ep, e, hd, _⟩ := hns
      exact notCode e fun vs q t hf => by rw [hd] at hf; cases hf)
  have hv : ∀ b ob, vis Mu s.heap b ob → vis F.Mu h₁ b ob := fun b ob v => ⟨fun hm => hm.elim v.1 fun q => (by
    have h2 := v.2
    rw [q, hfresh] at h2; cases h2), kp _ _ v.2⟩
  have hv0 : ∀ b ob, vis Mu s.heap b ob → vis F.Mu s.heap b ob := fun b ob v => ⟨(hv b ob v).1, v.2⟩
  have st : St C F (names.zip ds ++ ρc) { s with heap := h₁, toks := s.toks + (names.zip vs).length } := by
    refine ⟨ok1, fun b ob e => kp b ob e.2.2, ⟨fun b ob e => ⟨ob, kp b ob e⟩, fun P hP => .inl ?_⟩, fun x c e => ?_, _, hns, fun p hp => ?_⟩
    · obtain ⟨ob, e⟩ := tab_live ho.tabs P hP
      exact (kp _ _ e).trans e.symm
    · obtain ⟨v, ob, e1, e2⟩ := hcl x c e
      exact ⟨v, ob, kp _ _ e1, e2⟩
    · rcases List.mem_append.mp hp with hp | hp
      · obtain ⟨v, lk, h4⟩ := hr p hp
        exact ⟨v, (h4 F (fun a x => .inr x) hv0).mono (fun a o v => ⟨v.1, kp _ _ v.2⟩) (fun a o w _ e => ⟨w, kp _ _ e⟩), .inl ⟨hloc _ (List.of_mem_zip hp).1, lk⟩⟩
      · obtain ⟨c, v, h3, ⟨ob, e1, e2⟩, h4⟩ := hc p hp
        obtain ⟨h1, h2⟩ := freeOK_at hcn hp
        refine ⟨v, (h4 F (fun a x => .inr x) hv0).mono (fun a o v => ⟨v.1, kp _ _ v.2⟩) (fun a o w _ e => ⟨w, kp _ _ e⟩), .inr ⟨.inr ⟨h1, h2⟩, c, h3, ob, kp _ _ e1, e2⟩⟩
  refine wpAny_mono (h F M hA.deeper _ st) (fun fl s' q => ?_) fun _ _ q => q
  cases fl <;> exact q
theorem call_clos {prog : Program} {A : Around} {s : Shared} {Q : Value → Shared → Prop} {E : Value → Shared → Prop} {f : Addr} {o : Obj} {fd : FuncData} {body : List Stmt} {names : List Str} {vs : List Value} {ds : List D} {ρc : Rho}
    (hA : Rm (k + 1) A) (ho : OK C Mu s) (hobj : s.heap.get? f = some o) (hdat : o.data = .func fd) (hcd : s.heap.CodeRec fd.code fd.qualname) (hbody : fd.body = .stmts body)
    (r : RepL (vis Mu s.heap) vs ds) (hbind : bindArgs fd ⟨vs, []⟩ = pure (names.zip vs)) (hlen : names.length = ds.length) (hnd : names.Nodup) (hloc : ∀ x ∈ names, fd.scope.names.lookup x = some .local) (hcell : ∀ x ∈ fd.scope.names, x.2 ≠ .cell)
    (hg : fd.globals = mainGlobals) (hbi : fd.builtins = builtinsNs) (hco : fd.scope.isCoroutine = false) (hgen : fd.scope.isGenerator = false) (hk : fd.scope.kind = .function)
    (hX : ∀ a, X a → Mu a) (hXt : ∀ a, X a → ¬ isTab a) (hcl : ∀ x c, fd.closure.lookup x = some c → ∃ v, s.heap.IsCell c v)
    (hcn : freeOK fd.scope ρc = true) (hc : ∀ p ∈ ρc, ∃ c v, fd.closure.lookup p.1 = some c ∧ s.heap.IsCell c (some v) ∧ ∀ F : Fn, (∀ a, X a → F.own a) → (∀ a o, vis Mu s.heap a o → vis F.Mu s.heap a o) → HasV F s.heap v p.2)
    (h : ∀ F, ClosAt C Mu X s fd f F → Rm k (A.deeper F.env) → XS prog C (A.deeper F.env) F (names.zip ds ++ ρc) body (fun fl s' => Q (valOf fl) s') NoE) :
    wpAny (model prog C.w) A (call (.ref f) vs) Q E s := by
  have hl := r.length
  refine call_closE hA ho hobj hdat hcd hbody (fun p hp => ?_) hbind hloc hcell hg hbi hco hgen hk hX hXt hcl hcn hc fun F M hA' s' hs' => wpAny_mono (h F M hA' s' hs') (fun _ _ q => q) fun _ _ q => q.elim
  obtain ⟨v, rv, lk⟩ := r.zipHas (by omega) hnd p hp
  exact ⟨v, lk, fun F _ hv => .of (rv.mono hv)⟩
end
structure NestOK (C : Base) (c P line col : Nat) (qual : Str) : Prop where
  hd : CodeHd C.hb c P
  tab : isTab P
  bi : C.hb.BuiltinsAt C.mg P
  ne : mainGlobals ≠ P
  one : (P = 37 ∧ line = 62 ∧ col = 4 ∧ qual = "_int2digits.<locals>.inner") ∨ (P = 44 ∧ line = 77 ∧ col = 4 ∧ qual = "_digits2int.<locals>.inner")
theorem NestOK.get {C : Base} {c P line col : Nat} {qual : Str} (N : NestOK C c P line col qual) {h : Heap} (t : TabsOK h) : TabOK P line col qual h := by
  rcases N.one with ⟨rfl, rfl, rfl, rfl⟩ | ⟨rfl, rfl, rfl, rfl⟩
  · exact t.t1
  · exact t.t2
theorem TabOK.of {P line col : Nat} {q : Str} {h h' : Heap} (t : TabOK P line col q h) (hp : h'.get? P = h.get? P) (hk : ∀ a o, ¬ isTab a → h.get? a = some o → h'.get? a = some o) : TabOK P line col q h' := by
  rcases t with e | ⟨c', n, e, r⟩
  · exact .inl (hp.trans e)
  · obtain ⟨c₂, oc, vs, tq, e1, e2, e3, e4⟩ := r
    cases e1
    exact .inr ⟨c', n, hp.trans e, c', oc, vs, tq, rfl, hk c' _ n e2, e3, e4⟩
theorem NestOK.set {C : Base} {c P line col : Nat} {qual : Str} (N : NestOK C c P line col qual) {h h' : Heap} (t : TabsOK h) (t' : TabOK P line col qual h') (hp : ∀ P', isTab P' → P' ≠ P → h'.get? P' = h.get? P') (hk : ∀ a o, ¬ isTab a → h.get? a = some o → h'.get? a = some o) : TabsOK h' := by
  rcases N.one with ⟨rfl, rfl, rfl, rfl⟩ | ⟨rfl, rfl, rfl, rfl⟩
  · exact ⟨t', t.t2.of (hp 44 (.inr rfl) (by decide)) hk⟩
  · exact ⟨t.t1.of (hp 37 (.inl rfl) (by decide)) hk, t'⟩
theorem amongHit (line col : Nat) (pos : Pos) (v : Value) (h1 : pos.line = line) (h2 : pos.col = col) : codeAmong pos [rawInt line, rawInt col, v] = some v := by
  subst h1 h2
  unfold codeAmong
  show (if ((pos.line : Int) == pos.line && (pos.col : Int) == pos.col) = true then some v else _) = _
  simp
section
variable {C : Base} {k : Nat} {F : Fn} {ρ : Rho} {prog : Program} {A : Around} {Q : Flow → Shared → Prop} {E : Value → Shared → Prop} {rest : List Stmt}
theorem XS.nest (H : FOK F) {x : Str} {params : Arguments} {body : List Stmt} {scope : Scope} {pos : Pos} {c P line col : Nat} {qual : Str} {cx : Addr} (N : NestOK C c P line col qual) (hcode : F.env.code = .ref c) (hq : qualnameIn F.env x x = qual) (hl : pos.line = line) (hc : pos.col = col)
    (K : CellOK F x cx) (hfree : ∀ p ∈ scope.names, p.2 = .free → ∃ c, F.env.cells.lookup p.1 = some c) (hd0 : params.defaults = []) (hk0 : params.kw_defaults = []) (ha : annTrees params none F.env = []) (hx : ∀ p ∈ ρ, p.1 ≠ x)
    (h : ∀ (f c' : Addr) (oc : Obj) (vs : Array Value) (t : Tok) (doc pm ctv : Value), oc.data = .fields vs → vs[1]? = some (.str qual t) →
      XS prog C A F ((x, .obj f [(f, fnMade x qual params body scope (closL F.env scope.names []) doc pm c' ctv), (c', oc)]) :: ρ) rest Q E) :
    XS prog C A F ρ (.FunctionDef x params body [] none [] scope none x pos :: rest) Q E := by
  intro s hs
  refine wpAny_execs_cons (nestDef_K hd0 hk0 ha ?_)
  rw [hq]
  have hcl := closureFor_eq hfree
  have hk := hs.ok.keep
  have t := N.get hs.ok.tabs
  have fin : ∀ (f c' : Addr) (oc : Obj) (vs : Array Value) (t : Tok) (doc pm ctv : Value) (s' : Shared), Step s s' → oc.data = .fields vs → vs[1]? = some (.str qual t) → s'.heap.get? c' = some oc → s'.heap.get? f = some (fnMade x qual params body scope (closL F.env scope.names []) doc pm c' ctv) → ¬ F.Mu f → ¬ F.Mu c' →
      wpAny (model prog C.w) A (storeName F.env x (.ref f)) (fun _ s'' => wpAny (model prog C.w) A (execs rest F.env) Q E s'') E s' := fun f c' oc vs t doc pm ctv s' y h1 h2 h3 h4 h5 h6 => by
    refine St.storeC (d := .obj f [(f, fnMade x qual params body scope (closL F.env scope.names []) doc pm c' ctv), (c', oc)]) H K (hs.step y H.nt) (.obj fun p hp => ?_) hx fun s'' h'' => h f c' oc vs t doc pm ctv h1 h2 s'' h''
    rcases List.mem_cons.mp hp with rfl | hp
    · exact ⟨h5, h4⟩
    · rw [List.mem_singleton.mp hp]; exact ⟨h6, h3⟩
  rcases t with hP | ⟨c', n', hP, cr⟩
  · refine makeFunction_K hcl H.glob (C.g.keeps hk) hcode (N.hd.keeps hk) hP trivial rfl N.ne ?_ fun c' ctv doc h' tk he hge hlt hcr hP' => ?_
    · obtain ⟨bm, o, b1, b2, b3, b4, b5, b6⟩ := N.bi
      exact ⟨bm, o, b1, b2, b3, b4, hk _ _ b5, b6⟩
    · have nc : s.heap.get? c' = none := none_of_le hge
      have ntc : ¬ isTab c' := fun q => by obtain ⟨o, e⟩ := tab_live hs.ok.tabs c' q; rw [nc] at e; cases e
      have kp : ∀ a o, ¬ isTab a → s.heap.get? a = some o → (h'.push (fnMade x qual params body scope (closL F.env scope.names []) doc ((C.mg "__name__").getD .none) c' ctv)).get? a = some o := fun a o nt e => Heap.get?_push_of_some _ (he a o (fun q => nt (q ▸ N.tab)) e)
      have pt : ∀ a, isTab a → ∃ o, s.heap.get? a = some o := tab_live hs.ok.tabs
      have y : Step s { s with heap := h'.push (fnMade x qual params body scope (closL F.env scope.names []) doc ((C.mg "__name__").getD .none) c' ctv), toks := tk } := by
        have hp : ∀ P', isTab P' → P' ≠ P → (h'.push (fnMade x qual params body scope (closL F.env scope.names []) doc ((C.mg "__name__").getD .none) c' ctv)).get? P' = s.heap.get? P' := fun P' hP' hne => by
          obtain ⟨o, e⟩ := pt P' hP'
          exact (Heap.get?_push_of_some _ (he P' o hne e)).trans e.symm
        have eP : (h'.push (fnMade x qual params body scope (closL F.env scope.names []) doc ((C.mg "__name__").getD .none) c' ctv)).get? P = some (tabObj #[rawInt line, rawInt col, .ref c']) := by
          rw [Heap.get?_push_of_some _ hP', ← hl, ← hc]; rfl
        refine ⟨kp, fun _ => ⟨N.set hs.ok.tabs (.inr ⟨c', ntc, eP, hcr.keeps fun b o e => Heap.get?_push_of_some _ e⟩) hp kp, fun P' hP' => ?_⟩, rfl, rfl⟩
        by_cases q : P' = P
        · subst q; exact .inr ⟨_, _, c', ntc, nc, eP⟩
        · exact .inl (hp P' hP' q)
      obtain ⟨c₂, oc, vs, tq, e1, e2, e3, e4⟩ := id hcr
      cases e1
      have nM : ∀ a, s.heap.get? a = none → ¬ F.Mu a := fun a e hm => by obtain ⟨o, q⟩ := hs.ok.live a hm; rw [e] at q; cases q
      refine fin _ _ oc vs tq _ _ _ _ y e3 e4 (Heap.get?_push_of_some _ e2) (Heap.get?_push_size _ rfl) (nM _ ?_) (nM _ nc)
      exact none_of_le (Nat.le_of_lt (Nat.lt_of_le_of_lt hge hlt))
  · refine makeFunction_hit hcl H.glob (C.g.keeps hk) hcode (N.hd.keeps hk) hP (by exact trivial) (amongHit line col pos _ hl hc) ?_ fun ctv doc h' tk he hsz => ?_
    · obtain ⟨bm, o, b1, b2, b3, b4, b5, b6⟩ := N.bi
      exact ⟨bm, o, b1, b2, b3, b4, hk _ _ b5, b6⟩
    · have y : Step s { s with heap := h'.push (fnMade x qual params body scope (closL F.env scope.names []) doc ((C.mg "__name__").getD .none) c' ctv), toks := tk } := Step.of fun a o e => Heap.get?_push_of_some _ (he a o e)
      obtain ⟨c₂, oc, vs, tq, e1, e2, e3, e4⟩ := id cr
      cases e1
      have nM : ∀ a, s.heap.get? a = none → ¬ F.Mu a := fun a e hm => by obtain ⟨o, q⟩ := hs.ok.live a hm; rw [e] at q; cases q
      exact fin _ _ oc vs tq _ _ _ _ y e3 e4 (Heap.get?_push_of_some _ (he _ _ e2)) (Heap.get?_push_size _ rfl) (nM _ (none_of_le hsz)) (hs.ok.code P _ _ c' N.tab hP)
end
section
variable {C : Base} {k : Nat} {F : Fn} {ρ : Rho} {prog : Program} {A : Around} {Q : Flow → Shared → Prop} {E : Value → Shared → Prop} {rest : List Stmt}
theorem CellOK.sub {F₀ F : Fn} (S : Sub F₀ F) (ho : ∀ a, F₀.own a → F.own a) {x : Str} {c : Addr} (K : CellOK F₀ x c) : CellOK F x c := by
  obtain ⟨h1, h2, h3, h4⟩ := K
  refine ⟨?_, ?_, ho _ h3, fun y hy => h4 y ?_⟩
  · rw [S.env]; exact h1
  · rw [S.env]; exact h2
  · rw [← S.env]; exact hy
theorem XS.ownC {F₀ : Fn} (S : Sub F₀ F) {x : Str} {cx : Addr} {px pos : Pos} {e : Expr} {ds : List D} (K : CellOK F x cx) (hA : Rm k A) (he : EVF C k F ρ e ds) (hf : ds.all D.flat = true) (hx : ∀ p ∈ ρ, p.1 ≠ x)
    (h : ∀ F₂, Sub F₀ F₂ → (∀ y c, CellOK F y c → CellOK F₂ y c) → XS prog C A F₂ ((x, .own ds) :: ρ) rest Q E) (hsw : swapsWith e (some (.Name x px)) pos.line F.env = pure false := by rfl) : XS prog C A F ρ (.Assign [.Name x px] e pos :: rest) Q E := by
  intro s hs
  have H := S.fok
  refine wpAny_execs_cons (wpAny_Assign_Name (he.run _ _ _ _ _ hA hs fun l vs n s' y hn hv r => ?_) hsw)
  have W := WrOK.of H hs (wr := (· = l)) fun a q => q ▸ hn
  have S₂ := S.add (l := l) (fun hm => W.mu l hm rfl) (fun a o e q => W.kp a o e q)
  have up : ∀ y c, CellOK F y c → CellOK (F.addOwn l) y c := fun y c K => ⟨K.kind, K.at_, .inl K.own, K.inj⟩
  exact St.storeCV S₂.fok (up _ _ K) (hs.addOwn H y hn hv) (d := .own ds) ⟨l, vs, n, rfl, .inr rfl, hv, r.flat hf⟩ hx fun s2 h2 => h _ S₂ up s2 h2
theorem At.load (H : FOK F) {s : Shared} {m : Str → Option Value} {x : Str} {v : Value} {p : Pos} {Q : Value → Shared → Prop} {E : Value → Shared → Prop} (n : s.heap.Ns F.env.locals m) (a : At F s.heap m x v) (hd : (x == ("__debug__" : Str)) = false) (h : Q v s) : wpAny (model prog C.w) A (eval (.Name x p) F.env) Q E s := by
  refine wpAny_Name ?_ hd
  have hk := H.kind
  rcases a with ⟨h1, h2⟩ | ⟨h1 | ⟨h1, h1'⟩, c, h2, h3⟩
  · exact wpAny_loadName_local hk h1 n h2 h
  · exact wpAny_loadName_cell hk h1 h2 h3 h
  · exact wpAny_loadName_free hk h1 h2 h3 h h1'
theorem XS.setItem (H : FOK F) {x : Str} {ds : List D} {e i : Expr} {d : D} {iv : Nat} {px pa pos : Pos} {ρ' : Rho} (hA : Rm k A) (hm : (x, .own ds) ∈ ρ) (he : EV C k F ρ e d) (hi : EV C k F ρ i (.int iv)) (hlt : iv < ds.length) (hsz : ds.length < 2 ^ 24) (hρ : ∀ p ∈ ρ', p ∈ ρ ∧ p.2.isOwn = false)
    (h : XS prog C A F ((x, .own (ds.set iv d)) :: ρ') rest Q E) (hs : swapsWith e (some (.Subscript (.Name x px) i pa)) pos.line F.env = pure false := by rfl) (hd : (x == ("__debug__" : Str)) = false := by decide +kernel) :
    XS prog C A F ρ (.Assign [.Subscript (.Name x px) i pa] e pos :: rest) Q E := by
  intro s hst
  refine wpAny_execs_cons (wpAny_Assign_Subscript (he.run _ _ _ _ _ hA hst fun v s1 y1 r1 => ?_) hs)
  have hs1 := hst.step y1 H.nt
  obtain ⟨l, vs, n, m, w, e1, r, nn, a, hh, nt, hL⟩ := hs1.ownAt hm
  refine At.load H nn a hd (hi.run _ _ _ _ _ hA hs1 fun v2 s2 y2 r2 => ?_)
  obtain ⟨t, rfl⟩ := r2.int_i
  have hs2 := hs1.step y2 H.nt
  have e2 := y2.keep l _ nt e1
  have hl := r.length
  refine ki_setAt (n := n) e2 (by omega) (by omega) (by rw [List.size_toArray]; omega) (h _ ?_)
  have e3 : ∃ n', (s2.heap.update l (Obj.mapSeq (·.setIfInBounds (iv : Int).toNat v))).get? l = some (listO (vs.set iv v) n') := ⟨_, by have := IsL.update (n := n) e2 (·.setIfInBounds (iv : Int).toNat v); rw [Int.toNat_natCast] at this ⊢; rw [show (vs.toArray.setIfInBounds iv v) = (vs.set iv v).toArray by simp] at this; exact this⟩
  obtain ⟨n', e3⟩ := e3
  exact St.mut H hs2 w e2 (ns_step y2 hs1.ok.tabs nn) (a.step hs1.ok.tabs y2) (fun p hp => (hh p hp).step hs1.ok y2) (Heap.SameBut.update ..) e3 ((r.mono (hs1.ok.vis y2)).set (r1.mono (hs1.ok.vis y2)) iv) hρ
theorem St.stepX (H : FOK F) {s s' : Shared} {x : Str} {l : Addr} {vs vs' : List Value} {n n' : Nat} {ds' : List D} {m : Str → Option Value} {ρ' : Rho} (hs : St C F ρ s) (w : F.own l) (e : s.heap.get? l = some (listO vs n)) (nn : s.heap.Ns F.env.locals m) (a : At F s.heap m x (.ref l))
    (hh : ∀ p ∈ ρ, Has F s.heap m p.1 p.2) (y : StepX (· = l) s s') (e' : s'.heap.get? l = some (listO vs' n')) (r' : RepL (vis F.Mu s'.heap) vs' ds') (hρ : ∀ p ∈ ρ', p ∈ ρ ∧ p.2.isOwn = false) : St C F ((x, .own ds') :: ρ') s' := by
  have hL : F.env.locals ≠ l := fun q => by
    obtain ⟨o, es, ep, e2, hd, _⟩ := nn
    rw [q, e] at e2; cases e2; cases hd
  have kp : ∀ a o, ¬ isTab a → a ≠ l → s.heap.get? a = some o → s'.heap.get? a = some o := fun a o nt q x => y.keep a o nt q x
  have cl : ∀ c v, s.heap.IsCell c v → s'.heap.IsCell c v := fun c v x => by
    have nt := notTab_cell hs.ok.tabs x
    have ne : c ≠ l := fun q => by
      obtain ⟨o, e2, hd⟩ := x
      rw [q, e] at e2; cases e2; cases hd
    obtain ⟨o, e2, hd⟩ := x
    exact ⟨o, kp c o nt ne e2, hd⟩
  have vu : ∀ a o, vis F.Mu s.heap a o → vis F.Mu s'.heap a o := fun a o v => ⟨v.1, kp a o (fun t => v.1 (hs.ok.tab a t)) (fun q => v.1 (q ▸ H.ownMu l w)) v.2⟩
  have ats : ∀ y v, At F s.heap m y v → At F s'.heap m y v := fun y v q => q.elim .inl fun ⟨h1, c, h2, h3⟩ => .inr ⟨h1, c, h2, cl c _ h3⟩
  have ntL := notTab_ns hs.ok.tabs nn
  refine ⟨⟨fun a o q => ?_, hs.ok.hb, y.tabs.1, y.gens.trans hs.ok.gens, y.os.trans hs.ok.os, fun a ha => ?_, hs.ok.tab, fun P l1 l2 c' hP q => ?_⟩, fun a o q => kp a o (H.nt a o q) (fun z => H.ownKp a o q (z ▸ w)) (hs.kept a o q), hs.since.trans ⟨y.live, y.tabs.2⟩, fun x c q => let ⟨v, hv⟩ := hs.cells x c q; ⟨v, cl c v hv⟩, m, ?_, fun p hp => ?_⟩
  · exact kp a o (fun t => hs.ok.hb a o q (hs.ok.tab a t)) (fun z => hs.ok.hb a o q (z ▸ H.ownMu l w)) (hs.ok.keep a o q)
  · obtain ⟨o, q⟩ := hs.ok.live a ha; exact y.live a o q
  · rcases y.tabs.2 P hP with q2 | ⟨m1, m2, c₂, nt, f, q2⟩
    · exact hs.ok.code P l1 l2 c' hP (q2 ▸ q)
    · rw [q2] at q
      have : c₂ = c' := by simp [tabObj] at q; exact q.2.2
      subst this
      intro hm
      obtain ⟨o, q3⟩ := hs.ok.live _ hm
      rw [q3] at f; cases f
  · obtain ⟨o, es, ep, q, rr⟩ := nn; exact ⟨o, es, ep, kp _ _ ntL hL q, rr⟩
  · rcases List.mem_cons.mp hp with rfl | hp
    · exact ⟨_, ⟨l, vs', n', rfl, w, e', r'⟩, ats _ _ a⟩
    · obtain ⟨h1, h2⟩ := hρ p hp
      obtain ⟨v, r, q⟩ := hh p h1
      exact ⟨v, .of ((r.rep h2).mono vu), ats _ _ q⟩
end
section
variable {C : Base} {k : Nat} {F : Fn} {ρ : Rho} {prog : Program} {A : Around} {Q : Flow → Shared → Prop} {E : Value → Shared → Prop} {rest : List Stmt}
theorem XS.retN {pos : Pos} (h : ∀ s, St C F ρ s → Q (.ret .none) s) : XS prog C A F ρ (.Return none pos :: rest) Q E := by
  intro s hs
  refine wpAny_execs_cons ?_
  show wpAny _ _ (do standAt pos; pure (Flow.ret .none)) _ _ _
  exact wpAny_bind (wpAny_standAt (wpAny_pure (h s hs)))
theorem XS.callX (H : FOK F) {f y : Str} {p pos pos' : Pos} {e : Expr} {es : List Expr} {fa : Addr} {o : Obj} {ol : List (Addr × Obj)} {fd : FuncData} {as ds ds' : List D} {ρ' : Rho} (hA : Rm k A) (hm : (f, .obj fa ((fa, o) :: ol)) ∈ ρ) (hfd : o.data = .func fd) (hy : (y, .own ds) ∈ ρ)
    (ha : EVs C k F ρ (e :: es) as) (hf : ∀ (s : Shared) (vs us : List Value) (l : Addr) (n : Nat) (m : Str → Option Value) (Q : Value → Shared → Prop) (E : Value → Shared → Prop), St C F ρ s → F.own l → s.heap.get? l = some (listO us n) → RepL (vis F.Mu s.heap) us ds → At F s.heap m y (.ref l) → s.heap.Ns F.env.locals m → RepL (vis F.Mu s.heap) vs as →
      (∀ s' us' n', StepX (· = l) s s' → s'.heap.get? l = some (listO us' n') → RepL (vis F.Mu s'.heap) us' ds' → Q .none s') → wpAny (model prog C.w) A (call (.ref fa) vs) Q E s)
    (hρ : ∀ p ∈ ρ', p ∈ ρ ∧ p.2.isOwn = false) (h : XS prog C A F ((y, .own ds') :: ρ') rest Q E)
    (he : starEach (e :: es) F.env = (false, eval e F.env) :: starEach es F.env := by rfl) (hd : (f == ("__debug__" : Str)) = false := by decide +kernel) :
    XS prog C A F ρ (.Expr (.Call (.Name f p) (e :: es) [] pos) pos' :: rest) Q E := by
  intro s hs
  refine wpAny_execs_cons (wpAny_Expr_any (wpAny_Call_NameR ((EV.name H hm hd).run _ _ _ _ _ hA hs fun v s0 y0 r0 => ?_)) (by unfold interactive; rw [H.kind]; rfl))
  obtain ⟨rfl, hl⟩ := r0.obj_i
  have hs0 := hs.step y0 H.nt
  have ho := hl _ (List.mem_cons_self ..)
  refine callWith_def hfd (ha.run _ _ _ _ _ _ hA hs0 fun vs s1 y1 r1 => ?_) he
  have hs1 := hs0.step y1 H.nt
  obtain ⟨l, us, n, m, w, e1, r, nn, a, hh, nt, hL⟩ := hs1.ownAt hy
  refine ⟨(hs0.ok.vis y1 _ _ ho).2, hf _ _ _ _ _ _ _ _ hs1 w e1 r a nn r1 fun s2 us' n' y2 e2 r2 => h _ ?_⟩
  exact hs1.stepX H w e1 nn a hh y2 e2 r2 hρ
end
noncomputable def putAt (ds : List D) (L : Nat) (fs : List D) : List D := ds.take L ++ fs ++ ds.drop (L + fs.length)
theorem putAt_len {ds : List D} {L : Nat} {fs : List D} (h : L + fs.length ≤ ds.length) : (putAt ds L fs).length = ds.length := by
  unfold putAt; simp; omega
theorem putAt_one {ds : List D} {L : Nat} {d : D} (h : L < ds.length) : ds.set L d = putAt ds L [d] := by
  unfold putAt
  rw [List.set_eq_take_append_cons_drop, if_pos h]; simp
theorem putAt_two {ds : List D} {L : Nat} {f g : List D} (h : L + f.length + g.length ≤ ds.length) : putAt (putAt ds L f) (L + f.length) g = putAt ds L (f ++ g) := by
  unfold putAt
  have e1 : (ds.take L ++ f ++ ds.drop (L + f.length)).take (L + f.length) = ds.take L ++ f := by
    rw [List.take_append_of_le_length (by simp; omega), List.take_of_length_le (by simp; omega)]
  have e2 : (ds.take L ++ f ++ ds.drop (L + f.length)).drop (L + f.length + g.length) = ds.drop (L + (f ++ g).length) := by
    rw [List.drop_append, List.drop_of_length_le (by simp; omega), List.nil_append, List.drop_drop]
    congr 1; simp; omega
  rw [e1, e2]; simp
noncomputable def figs (n : Nat) : Nat → Int → List Int
  | 0, _ => []
  | m + 1, x => x % 2 ^ n :: figs n m (x / 2 ^ n)
theorem figs_len (n m : Nat) (x : Int) : (figs n m x).length = m := by
  induction m generalizing x with
  | zero => rfl
  | succ m ih => rw [figs, List.length_cons, ih]
theorem emod_mul' (x : Int) (a b : Nat) (h : 0 ≤ x) : x % ((a : Int) * b) = x % a + a * (x / a % b) := by
  obtain ⟨X, rfl⟩ := Int.eq_ofNat_of_zero_le h
  exact_mod_cast Nat.mod_mul (x := X) (a := a) (b := b)
theorem ediv_ediv' (x : Int) (a b : Nat) (h : 0 ≤ x) : x / a / b = x / ((a : Int) * b) := by
  obtain ⟨X, rfl⟩ := Int.eq_ofNat_of_zero_le h
  exact_mod_cast Nat.div_div_eq_div_mul X a b
theorem figs_split (n a b : Nat) (x : Int) (h : 0 ≤ x) : figs n (a + b) x = figs n a (x % 2 ^ (n * a)) ++ figs n b (x / 2 ^ (n * a)) := by
  induction a generalizing x with
  | zero => simp [figs]
  | succ a ih =>
    have hp : (0 : Int) < 2 ^ n := Int.pow_pos (by decide)
    have hq : (0 : Int) < 2 ^ (n * a) := Int.pow_pos (by decide)
    have e : (2 : Int) ^ (n * (a + 1)) = 2 ^ n * 2 ^ (n * a) := by rw [Nat.mul_add, Nat.mul_one, Nat.add_comm, Int.pow_add]
    rw [show a + 1 + b = (a + b) + 1 by omega, figs, ih _ (Int.ediv_nonneg h (Int.le_of_lt hp)), figs, List.cons_append, e]
    have d1 : (x % (2 ^ n * 2 ^ (n * a))) % 2 ^ n = x % 2 ^ n := Int.emod_emod_of_dvd _ (Int.dvd_mul_right _ _)
    have d2 : (x % (2 ^ n * 2 ^ (n * a))) / 2 ^ n = x / 2 ^ n % 2 ^ (n * a) := by
      have h1 : x % (2 ^ n * 2 ^ (n * a)) = x % 2 ^ n + 2 ^ n * (x / 2 ^ n % 2 ^ (n * a)) := by
        have := emod_mul' x (2 ^ n) (2 ^ (n * a)) h
        push_cast at this; exact this
      rw [h1, Int.add_mul_ediv_left _ _ (by omega), Int.ediv_eq_zero_of_lt (Int.emod_nonneg _ (by omega)) (Int.emod_lt_of_pos _ hp)]
      simp
    have d3 : x / 2 ^ n / 2 ^ (n * a) = x / (2 ^ n * 2 ^ (n * a)) := by
      have := ediv_ediv' x (2 ^ n) (2 ^ (n * a)) h
      push_cast at this; exact this
    rw [d1, d2, d3]
section
variable {C : Base} {k : Nat} {F : Fn} {ρ : Rho} {prog : Program} {A : Around} {Q : Flow → Shared → Prop} {E : Value → Shared → Prop} {rest : List Stmt}
theorem noDict {h : Heap} {l : Addr} {vs : List Value} {n : Nat} (e : h.get? l = some (listO vs n)) : h.NoDictAt (.ref l) := ⟨_, e, rfl⟩
theorem XS.reverse (H : FOK F) {x : Str} {ds : List D} {px pa pc pos : Pos} {ρ' : Rho} (hm : (x, .own ds) ∈ ρ) (hsz : ds.length < 2 ^ 24) (hρ : ∀ p ∈ ρ', p ∈ ρ ∧ p.2.isOwn = false) (h : XS prog C A F ((x, .own ds.reverse) :: ρ') rest Q E)
    {pl : Sem Bool} (he' : eval (.Call (.Attribute (.Name x px) "reverse" pa) [] [] pc) F.env = (do
      let ov ← eval (.Name x px) F.env
      standAt pa.atName
      let (f, first) ← holding [ov] (getMethod ov "reverse" pl)
      callWith pc f first (backTo pc (starEach [] F.env)) []) := by rfl) (hd : (x == ("__debug__" : Str)) = false := by decide +kernel) :
    XS prog C A F ρ (.Expr (.Call (.Attribute (.Name x px) "reverse" pa) [] [] pc) pos :: rest) Q E := by
  intro s hs
  obtain ⟨l, vs, n, m, w, e1, r, nn, a, hh, nt, hL⟩ := hs.ownAt hm
  refine wpAny_execs_cons (wpAny_Expr_any (MethodCall_ (pl := pl) (At.load H nn a hd ?_) he') (by unfold interactive; rw [H.kind]; rfl))
  refine getMethod_list_of PySem.F.slot_list_reverse (by kernel_rfl) (isList_of e1) (noDict e1) ?_
  refine P.reverse_list e1 ?_ (by rw [sizeLine_eq]; have := r.length; simp; omega)
  obtain ⟨n', e3⟩ : ∃ n', (s.heap.update l (Obj.mapSeq fun xs => xs.reverse)).get? l = some (listO vs.reverse n') := ⟨_, by have := IsL.update (n := n) e1 (fun xs => xs.reverse); rw [List.reverse_toArray] at this; exact this⟩
  exact h _ (St.mut H hs w e1 nn a hh (Heap.SameBut.update ..) e3 r.rev hρ)
theorem XS.asgW {x : Str} {px pos : Pos} {e : Expr} {d : D} {ρ₀ : Rho} (H : FOK F) (hA : Rm k A) (he : EV C k F ρ e d) (hl : F.env.kindOf x = some .local) (hw : ∀ p ∈ ρ₀, p ∈ ρ ∧ p.1 ≠ x)
    (h : XS prog C A F ((x, d) :: ρ₀) rest Q E) (hsw : swapsWith e (some (.Name x px)) pos.line F.env = pure false := by rfl) : XS prog C A F ρ (.Assign [.Name x px] e pos :: rest) Q E := by
  intro s hs
  refine wpAny_execs_cons (wpAny_Assign_Name (he.run _ _ _ _ _ hA hs fun v s' y r => ?_) hsw)
  exact St.store H ((hs.step y H.nt).weaken fun p hp => (hw p hp).1) hl r (fun p hp => (hw p hp).2) fun s2 h2 => h s2 h2
theorem XS.asgTW (H : FOK F) {ts : List Expr} {n : Nat} {tp pos : Pos} {e : Expr} {ds : List D} {ρ₀ ρ' : Rho} (hA : Rm k A) (he : EV C k F ρ e (.tup ds)) (hw : ∀ p ∈ ρ₀, p ∈ ρ) (L : AsgL C k F ρ₀ ts ds ρ') (h : XS prog C A F ρ' rest Q E)
    (hs : swapsWithSole [.Tuple ts n tp] e pos.line F.env = pure false := by rfl) (hwp : swappedStores [.Tuple ts n tp] e F.env = pure none := by rfl) : XS prog C A F ρ (.Assign [.Tuple ts n tp] e pos :: rest) Q E := by
  intro s hst
  refine wpAny_execs_cons (Assign_Tuple (he.run _ _ _ _ _ hA hst fun v s' y r => ?_) hs hwp)
  exact (Asg.tup H L).run _ _ _ _ _ _ hA ((hst.step y H.nt).weaken hw) r fun s2 h2 => h s2 h2
end
noncomputable def stmtAt (n : Nat) : Stmt := (PySem.Challenge.pw_ta0059_01.main.body).getD n (.Pass default)
noncomputable def nm : Stmt → Str | .FunctionDef n _ _ _ _ _ _ _ _ _ => n | _ => Str.empty
noncomputable def ar : Stmt → Arguments | .FunctionDef _ a _ _ _ _ _ _ _ _ => a | _ => default
noncomputable def bd : Stmt → List Stmt | .FunctionDef _ _ b _ _ _ _ _ _ _ => b | _ => []
noncomputable def sc : Stmt → Scope | .FunctionDef _ _ _ _ _ _ s _ _ _ => s | _ => default
noncomputable def mkFd (n : Nat) (pm cd : Value) : FuncData := fnOf (nm (stmtAt n)) (nm (stmtAt n)) (ar (stmtAt n)) (bd (stmtAt n)) (sc (stmtAt n)) .none .none .none pm none cd .none
structure PG (C : Base) : Prop where
  fd : ∀ p ∈ defList, ∃ pm, C.FD p.1 = some (mkFd p.2.1 pm (.ref p.2.2))
  mg : ∀ p ∈ nameList, C.mg p.1 = some (.ref p.2)
  num : ∀ p ∈ numList, ∃ t, C.mg p.1 = some (.int p.2 t)
  dots : ∃ t, C.mg "ELLIPSIS_MARKER" = some (.str (mkS [46, 46, 46]) t)
  nest1 : NestOK C 41 37 62 4 "_int2digits.<locals>.inner"
  nest2 : NestOK C 48 44 77 4 "_digits2int.<locals>.inner"
noncomputable def inSt (n i : Nat) : Stmt := (bd (stmtAt n)).getD i (.Pass default)
noncomputable def okDef (n : Nat) (names : List Str) : Bool :=
  names.all (fun x => (sc (stmtAt n)).names.lookup x == some .local) && (sc (stmtAt n)).names.all (fun x => x.2 != .cell) && !(sc (stmtAt n)).isCoroutine && !(sc (stmtAt n)).isGenerator && (sc (stmtAt n)).kind == .function && decide names.Nodup
section
variable {C : Base} {k : Nat} {Mu : Addr → Prop}
theorem TL.defP (G : PG C) {a n cd : Nat} {names : List Str} {ds : List D} {d : D} (hm : (a, n, cd) ∈ defList)
    (hbind : ∀ (pm : Value) (vs : List Value), vs.length = ds.length → bindArgs (mkFd n pm (.ref cd)) ⟨vs, []⟩ = pure (names.zip vs)) (hok : okDef n names = true) (hlen : names.length = ds.length)
    (h : ∀ (prog : Program) (A : Around) (F : Fn) (h₀ : Heap), F.env.scope = sc (stmtAt n) → Made C Mu h₀ F → FOK F → Rm k A → XS prog C A F (names.zip ds) (bd (stmtAt n)) (Ret C F d) NoE) :
    TL C (k + 1) Mu ds (fun vs => call (.ref a) vs) d := by
  obtain ⟨pm, hfd⟩ := G.fd _ hm
  simp only [okDef, Bool.and_eq_true, Bool.not_eq_true', beq_iff_eq, List.all_eq_true, decide_eq_true_eq, bne_iff_ne] at hok
  obtain ⟨⟨⟨⟨⟨h1, h2⟩, h3⟩, h4⟩, h5⟩, h6⟩ := hok
  refine TL.defn (names := names) hfd rfl rfl (hbind pm) hlen h6 h1 h2 rfl rfl h3 h4 h5 ?_
  intro prog A F L h₀ he M hA
  exact h prog A F h₀ (by rw [he]; rfl) M M.fok hA
end
noncomputable def okDefC (n : Nat) (names : List Str) : Bool :=
  names.all (fun x => (sc (stmtAt n)).names.lookup x == some .local || (sc (stmtAt n)).names.lookup x == some .cell) && !(sc (stmtAt n)).isCoroutine && !(sc (stmtAt n)).isGenerator && (sc (stmtAt n)).kind == .function && decide names.Nodup
theorem TL.defPC {C : Base} {k : Nat} {Mu : Addr → Prop} (G : PG C) {a n cd : Nat} {names : List Str} {ds : List D} {d : D} (hm : (a, n, cd) ∈ defList)
    (hbind : ∀ (pm : Value) (vs : List Value), vs.length = ds.length → bindArgs (mkFd n pm (.ref cd)) ⟨vs, []⟩ = pure (names.zip vs)) (hok : okDefC n names = true) (hlen : names.length = ds.length)
    (h : ∀ (prog : Program) (A : Around) (F : Fn) (h₀ : Heap), F.env.scope = sc (stmtAt n) → F.env.code = .ref cd → F.env.qual = nm (stmtAt n) ++ ".<locals>." → Made C Mu h₀ F → FOK F → (∀ x, (sc (stmtAt n)).names.lookup x = some .cell → ∃ c, CellOK F x c) → Rm k A → XS prog C A F (names.zip ds) (bd (stmtAt n)) (Ret C F d) NoE) :
    TL C (k + 1) Mu ds (fun vs => call (.ref a) vs) d := by
  obtain ⟨pm, hfd⟩ := G.fd _ hm
  simp only [okDefC, Bool.and_eq_true, Bool.or_eq_true, Bool.not_eq_true', beq_iff_eq, List.all_eq_true, decide_eq_true_eq, bne_iff_ne] at hok
  obtain ⟨⟨⟨⟨h1, h3⟩, h4⟩, h5⟩, h6⟩ := hok
  refine TL.defnC (names := names) hfd rfl rfl (hbind pm) hlen h6 h1 rfl rfl h3 h4 h5 ?_
  intro prog A F L h₀ he M hcs hA
  exact h prog A F h₀ (by rw [he]; rfl) (by rw [he]; rfl) (by rw [he]; rfl) M M.fok hcs hA
theorem EV.callV {C : Base} {k : Nat} {F : Fn} {ρ : Rho} (H : FOK F) {f : Str} {p pos : Pos} {e : Expr} {es : List Expr} {a : Addr} {o : Obj} {l : List (Addr × Obj)} {fd : FuncData} {ds : List D} {d : D} (hm : (f, .obj a ((a, o) :: l)) ∈ ρ) (hfd : o.data = .func fd)
    (ha : EVs C k F ρ (e :: es) ds) (hf : ∀ (prog : Program) (A : Around) (s : Shared) (vs : List Value) (Q : Value → Shared → Prop) (E : Value → Shared → Prop), Rm k A → St C F ρ s → RepL (vis F.Mu s.heap) vs ds → (∀ v s', Step s s' → Rep (vis F.Mu s'.heap) v d → Q v s') → wpAny (model prog C.w) A (call (.ref a) vs) Q E s)
    (he : starEach (e :: es) F.env = (false, eval e F.env) :: starEach es F.env := by rfl) (hd : (f == ("__debug__" : Str)) = false := by decide +kernel) :
    EV C k F ρ (.Call (.Name f p) (e :: es) [] pos) d := by
  refine EV.mk ?_
  intro prog A s Q E hA hs hQ
  refine wpAny_Call_NameR ((EV.name H hm hd).run _ _ _ _ _ hA hs fun v s0 y0 r0 => ?_)
  obtain ⟨rfl, hl⟩ := r0.obj_i
  have hs0 := hs.step y0 H.nt
  have ho := hl _ (List.mem_cons_self ..)
  refine callWith_def hfd (ha.run _ _ _ _ _ _ hA hs0 fun vs s1 y1 r1 => ?_) he
  have hs1 := hs0.step y1 H.nt
  exact ⟨(hs0.ok.vis y1 _ _ ho).2, hf _ _ _ _ _ _ hA hs1 r1 fun v s2 y2 r2 => hQ _ _ (y0.trans (y1.trans y2)) r2⟩
theorem kd {F : Fn} {n : Nat} {x : Str} {q : NameKind} (h : F.env.scope = sc (stmtAt n)) (e : (sc (stmtAt n)).names.lookup x = some q) : F.env.kindOf x = some q := by
  show F.env.scope.names.lookup x = some q
  rw [h]; exact e
theorem str_dots : Str.ofString "..." = mkS [46, 46, 46] := by decide +kernel
theorem str_empty : Str.ofString "" = mkS [] := by decide +kernel
theorem EV.num {C : Base} {k : Nat} {F : Fn} {ρ : Rho} (H : FOK F) (G : PG C) {x : Str} {v : Int} {pos : Pos} (hx : F.env.kindOf x = some .globalImplicit) (hm : (x, v) ∈ numList) (hd : (x == ("__debug__" : Str)) = false := by decide +kernel) : EV C k F ρ (.Name x pos) (.int v) := by
  obtain ⟨t, hn⟩ := G.num _ hm
  exact EV.global H hx hn (fun g => .int _ _) hd
theorem Ret.of {C : Base} {F : Fn} {ρ : Rho} {d : D} : ∀ v s, St C F ρ s → Rep (vis F.Mu s.heap) v d → Ret C F d (.ret v) s := fun v _ hs r => ⟨v, rfl, hs.weaken (fun _ h => nomatch h), r⟩



structure CPre (Mu : Addr → Prop) (cl : List (Str × Addr)) (ρc : Rho) (h : Heap) : Prop where
  cells : ∀ x c, cl.lookup x = some c → ∃ v, h.IsCell c v
  has : ∀ p ∈ ρc, ∃ c v, cl.lookup p.1 = some c ∧ h.IsCell c (some v) ∧ Rep (vis Mu h) v p.2
theorem CPre.of {C : Base} {F : Fn} {ρ ρc : Rho} {s : Shared} {cl : List (Str × Addr)} (hs : St C F ρ s) (hcl : ∀ x c, cl.lookup x = some c → F.env.cells.lookup x = some c)
    (hρ : ∀ p ∈ ρc, p ∈ ρ ∧ (∃ c, cl.lookup p.1 = some c) ∧ F.env.kindOf p.1 ≠ some .local ∧ p.2.isOwn = false) : CPre F.Mu cl ρc s.heap := by
  refine ⟨fun x c e => hs.cells x c (hcl x c e), fun p hp => ?_⟩
  obtain ⟨h1, ⟨c, h2⟩, h3, h4⟩ := hρ p hp
  obtain ⟨m, n, hh⟩ := hs.fr
  obtain ⟨v, r, a⟩ := hh p h1
  rcases a with ⟨q, _⟩ | ⟨_, c', e, hc⟩
  · exact absurd q h3
  · have := hcl _ _ h2
    rw [e] at this
    have q := Option.some.inj this
    exact ⟨c, v, h2, q ▸ hc, r.rep h4⟩
noncomputable def dig (n : Nat) : List Int → Int
  | [] => 0
  | d :: r => d + 2 ^ n * dig n r
theorem dig_append (n : Nat) (a b : List Int) : dig n (a ++ b) = dig n a + 2 ^ (n * a.length) * dig n b := by
  induction a with
  | nil => simp [dig]
  | cons d r ih =>
    rw [List.cons_append, dig, dig, ih, List.length_cons, Nat.mul_add, Nat.mul_one, Int.mul_add, ← Int.mul_assoc, ← Int.pow_add]
    rw [Nat.add_comm (n * r.length) n]; omega
theorem dig_lt (n : Nat) (l : List Int) (h : ∀ d ∈ l, 0 ≤ d ∧ d < 2 ^ n) : 0 ≤ dig n l ∧ dig n l < 2 ^ (n * l.length) := by
  induction l with
  | nil => simp [dig]
  | cons d r ih =>
    obtain ⟨i1, i2⟩ := ih fun x hx => h x (List.mem_cons_of_mem _ hx)
    obtain ⟨h1, h2⟩ := h d (List.mem_cons_self ..)
    have hp : (0 : Int) < 2 ^ n := Int.pow_pos (by decide)
    rw [dig, List.length_cons, Nat.mul_add, Nat.mul_one, Int.pow_add]
    have e1 : 2 ^ n * dig n r ≤ 2 ^ n * (2 ^ (n * r.length) - 1) := Int.mul_le_mul_of_nonneg_left (by omega) (Int.le_of_lt hp)
    have e2 : (0 : Int) ≤ 2 ^ n * dig n r := Int.mul_nonneg (Int.le_of_lt hp) i1
    refine ⟨by omega, ?_⟩
    rw [Int.mul_sub, Int.mul_one, Int.mul_comm (2 ^ n) (2 ^ (n * r.length))] at e1
    omega
noncomputable def part (ds : List Int) (L R : Nat) : List Int := (ds.drop L).take (R - L)
theorem part_one {ds : List Int} {L : Nat} (h : L < ds.length) : part ds L (L + 1) = [ds[L]] := by
  unfold part
  rw [List.drop_eq_getElem_cons h, show L + 1 - L = 1 by omega, List.take_succ_cons, List.take_zero]
theorem part_split {ds : List Int} {L M R : Nat} (h1 : L ≤ M) (h2 : M ≤ R) : part ds L R = part ds L M ++ part ds M R := by
  unfold part
  have e : R - L = (M - L) + (R - M) := by omega
  rw [e, List.take_add, List.drop_drop]
  congr 3; omega
theorem part_len {ds : List Int} {L R : Nat} (h2 : R ≤ ds.length) : (part ds L R).length = R - L := by
  unfold part; simp; omega
theorem part_all {ds : List Int} : part ds 0 ds.length = ds := by simp [part]
theorem part_mem {ds : List Int} {L R : Nat} {d : Int} (h : d ∈ part ds L R) : d ∈ ds := List.mem_of_mem_drop (List.mem_of_mem_take h)
theorem bits_le {a : Int} {m : Nat} (h0 : 0 ≤ a) (h : a < 2 ^ m) : Builtin.Int.intBits a ≤ m := by
  refine intBits_le_iff.mpr ?_
  have : ((a.natAbs : Nat) : Int) < ((2 ^ m : Nat) : Int) := by rw [Int.natAbs_of_nonneg h0]; push_cast; exact h
  exact_mod_cast this
theorem ne_of_all {ρ : Rho} {x : Str} (h : ρ.all (fun p => p.1 != x) = true) : ∀ p ∈ ρ, p.1 ≠ x := fun p hp => by
  have := List.all_eq_true.mp h p hp
  simpa using this
theorem EV.toI {C : Base} {k : Nat} {F : Fn} {ρ : Rho} {e : Expr} {a b : Int} (h : EV C k F ρ e (.int a)) (q : a = b) : EV C k F ρ e (.int b) := q ▸ h
theorem kdS {F : Fn} {S : Scope} {x : Str} {q : NameKind} (h : F.env.scope = S) (e : S.names.lookup x = some q) : F.env.kindOf x = some q := by
  show F.env.scope.names.lookup x = some q
  rw [h]; exact e
theorem nat_and_high (X s : Nat) : X &&& (X / 2 ^ s * 2 ^ s) = X / 2 ^ s * 2 ^ s := by
  refine Nat.eq_of_testBit_eq fun j => ?_
  rw [Nat.testBit_and, Nat.testBit_mul_two_pow]
  by_cases h : s ≤ j
  · rw [Nat.testBit_div_two_pow, Nat.sub_add_cancel h]
    simp [h]
  · simp [h]
theorem xor_low (x : Int) (s : Nat) (h : 0 ≤ x) : Builtin.bitXor x (x / 2 ^ s * 2 ^ s) = x % 2 ^ s := by
  obtain ⟨X, rfl⟩ := Int.eq_ofNat_of_zero_le h
  rw [bitXor_and]
  have e : ((X : Int) / 2 ^ s * 2 ^ s) = ((X / 2 ^ s * 2 ^ s : Nat) : Int) := by push_cast; rfl
  have e2 : Builtin.bitAnd (X : Int) ((X / 2 ^ s * 2 ^ s : Nat) : Int) = ((X / 2 ^ s * 2 ^ s : Nat) : Int) := by
    unfold Builtin.bitAnd
    rw [decide_eq_true (by omega), decide_eq_true (by omega)]
    show (((X : Int).toNat &&& ((X / 2 ^ s * 2 ^ s : Nat) : Int).toNat : Nat) : Int) = _
    rw [Int.toNat_natCast, Int.toNat_natCast, nat_and_high]
  have e3 := Int.mul_ediv_add_emod (X : Int) (2 ^ s)
  rw [Int.mul_comm] at e3
  rw [e, e2, ← e]
  omega
theorem fdiv_pow (x : Int) (s : Nat) : Int.fdiv x (2 ^ ((s : Nat) : Int).toNat) = x / 2 ^ s := by
  rw [Int.toNat_natCast, Int.fdiv_eq_ediv_of_nonneg _ (Int.le_of_lt (Int.pow_pos (by decide)))]
theorem memN {α : Type} {P : α → Prop} : ∀ p ∈ ([] : List α), P p := fun _ h => nomatch h
theorem memC {α : Type} {P : α → Prop} {a : α} {l : List α} (h : P a) (t : ∀ p ∈ l, P p) : ∀ p ∈ a :: l, P p := fun p hp => (List.mem_cons.mp hp).elim (fun e => e ▸ h) (t p)
theorem memA {α : Type} {P : α → Prop} {l m : List α} (h : ∀ p ∈ l, P p) (t : ∀ p ∈ m, P p) : ∀ p ∈ l ++ m, P p := fun p hp => (List.mem_append.mp hp).elim (h p) (t p)
noncomputable def ldR (n : Nat) (b : Int) (hs : List Int) : Nat → Int
  | 0 => 0
  | i + 1 => (ldR n b hs i * 2 ^ n + hs.getD i 0) % b
noncomputable def ldQ (n : Nat) (b : Int) (hs : List Int) (i : Nat) : Int := (ldR n b hs i * 2 ^ n + hs.getD i 0) / b
theorem ldR_lt (n : Nat) {b : Int} (hb : 0 < b) (hs : List Int) (i : Nat) : 0 ≤ ldR n b hs i ∧ ldR n b hs i < b := by
  cases i with
  | zero => exact ⟨Int.le_refl _, hb⟩
  | succ i => exact ⟨Int.emod_nonneg _ (by omega), Int.emod_lt_of_pos _ hb⟩
theorem ldQ_lt (n : Nat) {b : Int} (hb : 0 < b) (hs : List Int) (hd : ∀ d ∈ hs, 0 ≤ d ∧ d < 2 ^ n) (i : Nat) : 0 ≤ ldQ n b hs i ∧ ldQ n b hs i < 2 ^ n := by
  obtain ⟨r0, r1⟩ := ldR_lt n hb hs i
  have hp : (0 : Int) < 2 ^ n := Int.pow_pos (by decide)
  have hg : 0 ≤ hs.getD i 0 ∧ hs.getD i 0 < 2 ^ n := by
    rw [List.getD_eq_getElem?_getD]
    cases q : hs[i]? with
    | none => exact ⟨Int.le_refl _, hp⟩
    | some d => exact hd d (List.mem_of_getElem? q)
  have h0 : 0 ≤ ldR n b hs i * 2 ^ n := Int.mul_nonneg r0 (Int.le_of_lt hp)
  have h1 : ldR n b hs i * 2 ^ n ≤ (b - 1) * 2 ^ n := Int.mul_le_mul_of_nonneg_right (by omega) (Int.le_of_lt hp)
  rw [Int.sub_mul, Int.one_mul] at h1
  refine ⟨Int.ediv_nonneg (by omega) (by omega), Int.ediv_lt_of_lt_mul hb (by rw [Int.mul_comm (2 ^ n) b]; omega)⟩
noncomputable def ldQs (n : Nat) (b : Int) (hs : List Int) (i : Nat) : List Int := (List.range i).map (ldQ n b hs)
theorem ld_inv (n : Nat) {b : Int} (hb : 0 < b) (hs : List Int) (i : Nat) (hi : i ≤ hs.length) : dig n (ldQs n b hs i).reverse * b + ldR n b hs i = dig n (hs.take i).reverse := by
  induction i with
  | zero => simp [ldQs, dig, ldR]
  | succ i ih =>
    have ih := ih (by omega)
    have e1 : (ldQs n b hs (i + 1)).reverse = ldQ n b hs i :: (ldQs n b hs i).reverse := by
      unfold ldQs
      rw [List.range_succ, List.map_append, List.reverse_append]; rfl
    have e2 : (hs.take (i + 1)).reverse = hs[i] :: (hs.take i).reverse := by
      rw [List.take_succ_eq_append_getElem (by omega), List.reverse_append]; rfl
    have e3 : hs.getD i 0 = hs[i] := by rw [List.getD_eq_getElem?_getD, List.getElem?_eq_getElem (by omega)]; rfl
    rw [e1, e2, dig, dig, ← ih]
    have e4 := Int.mul_ediv_add_emod (ldR n b hs i * 2 ^ n + hs.getD i 0) b
    rw [e3] at e4
    show (ldQ n b hs i + 2 ^ n * dig n (ldQs n b hs i).reverse) * b + ldR n b hs (i + 1) = _
    unfold ldQ
    rw [ldR, e3, Int.add_mul, Int.mul_add]
    generalize hs[i] = d at *
    generalize (ldR n b hs i * 2 ^ n + d) / b = qq at *
    generalize (ldR n b hs i * 2 ^ n + d) % b = rr at *
    rw [Int.mul_comm b qq] at e4
    rw [Int.mul_assoc, Int.mul_comm (2 ^ n) (ldR n b hs i)]
    omega
theorem ld_end (n : Nat) {b : Int} (hb : 0 < b) (hs : List Int) : dig n (ldQs n b hs hs.length).reverse = dig n hs.reverse / b ∧ ldR n b hs hs.length = dig n hs.reverse % b := by
  have e := ld_inv n hb hs hs.length (Nat.le_refl _)
  rw [List.take_length] at e
  obtain ⟨r0, r1⟩ := ldR_lt n hb hs hs.length
  rw [← e]
  refine ⟨?_, ?_⟩
  · rw [Int.add_comm, Int.add_mul_ediv_right _ _ (by omega), Int.ediv_eq_zero_of_lt r0 r1]; simp
  · rw [Int.add_comm, Int.add_mul_emod_self_right, Int.emod_eq_of_lt r0 r1]
local macro_rules | `(tactic| walk_at "side") => `(tactic| first | assumption | decide | omega)
local macro_rules | `(tactic| walk_at "mem") => `(tactic| first | exact List.Mem.head _ | (refine List.Mem.tail _ ?_; walk_at "mem"))
local macro_rules | `(tactic| walk_at "kd") => `(tactic| first | exact kd (by assumption) (by decide +kernel) | exact kdS (by assumption) (by decide +kernel))
local macro_rules | `(tactic| walk_at "ne") => `(tactic| exact ne_of_all (by kernel_rfl))
local macro_rules | `(tactic| walk_at "op2") => `(tactic| first
  | exact T2.add | exact T2.sub | exact T2.band | exact T2.bor | exact T2.bxor | exact T2.eqi | exact T2.nei | exact T2.lti | exact T2.lei | exact T2.gti | exact T2.gei | exact T2.isb | exact T2.isnb | exact T2.eqs | exact T2.ins | exact T2.nins
  | exact T2.mul (by walk_at "side") | exact T2.fdiv (by walk_at "side") (by walk_at "side") | exact T2.fmod (by walk_at "side") | exact T2.pow (by walk_at "side") (by walk_at "side") | exact T2.shl (by walk_at "side") (by walk_at "side") | exact T2.shr (by walk_at "side") | exact T2.adds (by walk_at "side") | exact T2.addl (by walk_at "side") | exact T2.muls (by walk_at "side") (by walk_at "side") (by walk_at "side") | exact T2.mull (by walk_at "side") (by walk_at "side") (by walk_at "side")
  | exact T2.eqd (by walk_at "side") (by walk_at "side") | exact T2.ned (by walk_at "side") (by walk_at "side") | exact T2.inl (by walk_at "side") (by walk_at "side"))
local macro_rules | `(tactic| walk_at "op1") => `(tactic| first | exact T1.neg | exact T1.inv)
local macro_rules | `(tactic| walk_at "evs") => `(tactic| first | exact EVs.nil | (refine' EVs.cons (by assumption) ?e1 ?e2 (by rfl); (case e1 => walk_at "ev"); (case e2 => walk_at "evs")))
local macro_rules | `(tactic| walk_at "ev") => `(tactic| first
  | exact EV.int _ | exact EV.bool _ | exact EV.nun | exact EV.str str_dots | exact EV.str str_empty
  | (refine' EV.name (by assumption) ?m (by decide +kernel) ?ho; (case m => walk_at "mem"); (case ho => rfl))
  | (refine' EV.num (by assumption) (by assumption) ?kd ?m; (case m => walk_at "mem"); (case kd => walk_at "kd"))
  | (refine' EV.bin (by assumption) ?e1 ?e2 ?eo; (case e1 => walk_at "ev"); (case e2 => walk_at "ev"); (case eo => walk_at "op2"))
  | (refine' EV.cmp (by assumption) ?e1 ?e2 ?eo; (case e1 => walk_at "ev"); (case e2 => walk_at "ev"); (case eo => walk_at "op2"))
  | (refine' EV.una (by assumption) ?e1 ?eo; (case e1 => walk_at "ev"); (case eo => walk_at "op1"))
  | (refine' EV.tup (by assumption) ?e1; (case e1 => walk_at "evs"))
  | (refine' EV.lst (by assumption) ?e1; (case e1 => walk_at "evs")))
local macro_rules | `(tactic| walk_at "tt") => `(tactic| first
  | (refine' TT.cmp (by assumption) ?e1 ?e2 ?eo; (case e1 => walk_at "ev"); (case e2 => walk_at "ev"); (case eo => walk_at "op2"))
  | (refine' TT.not ?e1; (case e1 => walk_at "tt"))
  | (refine' TT.val (by assumption) ?e1 ?eo ?ob; (case e1 => walk_at "ev"); (case ob => exact rfl); (case eo => first | rfl | skip)))
section
variable {C : Base} {k : Nat} {Mu : Addr → Prop}
theorem len1 {α : Type} {vs : List α} (h : vs.length = 1) : ∃ v, vs = [v] := by
  match vs, h with
  | [v], _ => exact ⟨v, rfl⟩
theorem isterminal_spec (G : PG C) {x : Int} : TL C (k + 1) Mu [.int x] (fun vs => call (.ref 80) vs) (.bool (decide (x < 256))) := by
  refine TL.defP G (n := 65) (cd := 79) (names := ["x"]) (by decide) (fun pm vs hv => by obtain ⟨v, rfl⟩ := len1 hv; kernel_rfl) (by decide +kernel) rfl ?_
  intro prog A F h₀ hsc M H hA
  refine XS.ret H hA ?_ Ret.of
  walk_at "ev"
theorem isnonterminal_spec (G : PG C) {x : Int} : TL C (k + 1) Mu [.int x] (fun vs => call (.ref 87) vs) (.bool (decide (x ≥ 256))) := by
  refine TL.defP G (n := 66) (cd := 86) (names := ["x"]) (by decide) (fun pm vs hv => by obtain ⟨v, rfl⟩ := len1 hv; kernel_rfl) (by decide +kernel) rfl ?_
  intro prog A F h₀ hsc M H hA
  refine XS.ret H hA ?_ Ret.of
  walk_at "ev"
theorem iseof_spec (G : PG C) {x : Int} : TL C (k + 1) Mu [.int x] (fun vs => call (.ref 94) vs) (.bool (x == 0)) := by
  refine TL.defP G (n := 67) (cd := 93) (names := ["x"]) (by decide) (fun pm vs hv => by obtain ⟨v, rfl⟩ := len1 hv; kernel_rfl) (by decide +kernel) rfl ?_
  intro prog A F h₀ hsc M H hA
  refine XS.ret H hA ?_ Ret.of
  walk_at "ev"
end
theorem fdiv2 (a : Nat) : Int.fdiv (a : Int) (2 ^ (1 : Int).toNat) = ((a / 2 : Nat) : Int) := by
  show Int.fdiv (a : Int) 2 = _
  rw [Int.fdiv_eq_ediv_of_nonneg _ (by decide)]; rfl
theorem memPair {x y : Str} {d : D} {l : Rho} (h : (x, d) ∈ l) : (x, d) ∈ (y, d) :: l := List.mem_cons_of_mem _ h
section
variable {C : Base}
noncomputable abbrev d2iR (ds : List Int) (n : Nat) (f c' : Addr) (oc : Obj) (cl : List (Str × Addr)) (doc pm ctv : Value) : Rho := [("digits", .list (ds.map .int)), ("n", .int n), ("inner", .obj f [(f, fnMade "inner" "_digits2int.<locals>.inner" (ar (inSt 8 0)) (bd (inSt 8 0)) (sc (inSt 8 0)) cl doc pm c' ctv), (c', oc)])]
theorem d2i_inner {ds : List Int} {n : Nat} (hn : n * ds.length ≤ 2 ^ 24) (hlen : ds.length ≤ 2 ^ 20) (hn0 : n ≤ 2 ^ 20) (hd : ∀ d ∈ ds, 0 ≤ d ∧ d < 2 ^ n) {f c' : Addr} {oc : Obj} {ovs : Array Value} {t : Tok} {doc pm ctv : Value} {cl : List (Str × Addr)} (h1 : oc.data = .fields ovs) (h2 : ovs[1]? = some (.str "_digits2int.<locals>.inner" t)) :
    ∀ (j : Nat) (L R : Nat), L < R → R ≤ ds.length → R - L ≤ 2 ^ j → ∀ (Mu : Addr → Prop) (prog : Program) (A : Around) (s : Shared) (vs : List Value) (Q : Value → Shared → Prop) (E : Value → Shared → Prop), Rm (j + 1) A → OK C Mu s →
      CPre Mu cl (d2iR ds n f c' oc cl doc pm ctv) s.heap →
      RepL (vis Mu s.heap) vs [.int L, .int R] → (∀ v s', Step s s' → Rep (vis Mu s'.heap) v (.int (dig n (part ds L R))) → Q v s') → wpAny (model prog C.w) A (call (.ref f) vs) Q E s := by
  intro j
  have q1 : ∀ x ∈ (["L", "R"] : List Str), (sc (inSt 8 0)).names.lookup x = some .local := by decide +kernel
  have q2 : ∀ x ∈ (sc (inSt 8 0)).names, x.2 ≠ .cell := by decide +kernel
  have q3 : (sc (inSt 8 0)).isCoroutine = false := by decide +kernel
  have q4 : (sc (inSt 8 0)).isGenerator = false := by decide +kernel
  have q5 : (sc (inSt 8 0)).kind = .function := by decide +kernel
  -- one call, whatever the calls within do
  have one : ∀ (j : Nat) (L R : Nat), L < R → R ≤ ds.length → (R = L + 1 ∨ ∀ L' R' : Nat, L' < R' → R' ≤ ds.length → L ≤ L' → R' ≤ R → R' - L' < R - L → R' - L' ≤ (R - L + 1) / 2 → ∀ (Mu : Addr → Prop) (prog : Program) (A : Around) (s : Shared) (vs : List Value) (Q : Value → Shared → Prop) (E : Value → Shared → Prop), Rm j A → OK C Mu s →
      CPre Mu cl (d2iR ds n f c' oc cl doc pm ctv) s.heap →
      RepL (vis Mu s.heap) vs [.int L', .int R'] → (∀ v s', Step s s' → Rep (vis Mu s'.heap) v (.int (dig n (part ds L' R'))) → Q v s') → wpAny (model prog C.w) A (call (.ref f) vs) Q E s) →
      ∀ (Mu : Addr → Prop) (prog : Program) (A : Around) (s : Shared) (vs : List Value) (Q : Value → Shared → Prop) (E : Value → Shared → Prop), Rm (j + 1) A → OK C Mu s →
      CPre Mu cl (d2iR ds n f c' oc cl doc pm ctv) s.heap →
      RepL (vis Mu s.heap) vs [.int L, .int R] → (∀ v s', Step s s' → Rep (vis Mu s'.heap) v (.int (dig n (part ds L R))) → Q v s') → wpAny (model prog C.w) A (call (.ref f) vs) Q E s := by
    intro j L R hLR hR hin Mu prog A s vs Q E hA ho hp r hQ
    obtain ⟨ci, vi, hci, hcell, ri⟩ := hp.has _ (List.mem_cons_of_mem _ (List.mem_cons_of_mem _ (List.mem_cons_self ..)))
    obtain ⟨rfl, hob⟩ := ri.obj_i
    have e1 := hob _ (List.mem_cons_self ..)
    have e2 := hob _ (List.mem_cons_of_mem _ (List.mem_cons_self ..))
    refine call_clos (X := fun _ => False) (names := ["L", "R"]) (body := bd (inSt 8 0)) (ρc := (d2iR ds n f c' oc cl doc pm ctv))
      hA ho e1.2 rfl ⟨c', oc, ovs, t, rfl, e2.2, h1, h2⟩ rfl r (by obtain ⟨v, w, rfl, _⟩ := r.two; kernel_rfl) rfl (by decide +kernel) q1 q2 rfl rfl q3 q4 q5 (fun _ h => h.elim) (fun _ h => h.elim) hp.cells (by kernel_rfl) (fun p hpm => ?_) ?_
    · obtain ⟨c, v, q1, q2, q3⟩ := hp.has p hpm
      exact ⟨c, v, q1, q2, fun F _ hv => .of (q3.mono hv)⟩
    intro F M hA'
    have H := M.fok
    have hsc : F.env.scope = sc (inSt 8 0) := M.sc
    have fin : ∀ (ρ : Rho) v s', St C F ρ s' → Rep (vis F.Mu s'.heap) v (.int (dig n (part ds L R))) → Q v s' := fun ρ v s' hs rv => by
      have st := M.step ho hs
      exact hQ v s' ⟨fun a o nt e => st.keep a o nt (fun h => h) e, fun _ => st.tabs, st.gens, st.os⟩ (rv.flat rfl)
    show XS prog C (A.deeper F.env) F [("L", .int L), ("R", .int R), ("digits", .list (ds.map .int)), ("n", .int n), ("inner", _)] (bd (inSt 8 0)) _ NoE
    refine XS.iff (b := ((L : Int) + 1 == (R : Int))) H hA' (by walk_at "tt") (fun hb => ?_) (fun hb => ?_)
    · have hR' : R = L + 1 := by have := eq_of_beq hb; omega
      subst hR'
      refine XS.ret (d := .int ds[L]) H hA' (EV.item (T := "list") H (by walk_at "ev") (by walk_at "ev") (T2.idxl (by omega) (by omega) (by rw [List.getElem?_map, Int.toNat_natCast, List.getElem?_eq_getElem (by omega)]; rfl)) rfl) fun v s' hs rv => ?_
      refine fin _ v s' hs ?_
      rw [part_one (by omega)]
      simpa [dig] using rv
    · refine XS.thenn (ρ' := [("L", .int L), ("R", .int R), ("digits", .list (ds.map .int)), ("n", .int n), ("inner", _)]) ?_ (fun p hp => hp)
      have hne : ¬ R = L + 1 := fun q => by subst q; simp at hb
      have hin := hin.resolve_left hne
      have hmid : L < (L + R) / 2 ∧ (L + R) / 2 < R := by omega
      have hfo : freeOK (sc (inSt 8 0)) (d2iR ds n f c' oc cl doc pm ctv) = true := by kernel_rfl
      have hrec : ∀ (ρ : Rho) (e₁ e₂ : Expr) (p q : Pos) (L' R' : Nat), (∀ p ∈ d2iR ds n f c' oc cl doc pm ctv, p ∈ ρ) → L' < R' → R' ≤ R → L ≤ L' → R' - L' < R - L → R' - L' ≤ (R - L + 1) / 2 → EV C j F ρ e₁ (.int L') → EV C j F ρ e₂ (.int R') →
          starEach [e₁, e₂] F.env = (false, eval e₁ F.env) :: starEach [e₂] F.env → starEach [e₂] F.env = (false, eval e₂ F.env) :: starEach [] F.env →
          EV C j F ρ (.Call (.Name "inner" p) [e₁, e₂] [] q) (.int (dig n (part ds L' R'))) := by
        intro ρ e₁ e₂ p q L' R' hsub a1 a2 a3 a4 a5 v1 v2 w1 w2
        refine EV.callV H (l := [(c', oc)]) (hsub _ (List.mem_cons_of_mem _ (List.mem_cons_of_mem _ (List.mem_cons_self ..)))) rfl (EVs.cons H v1 (EVs.cons H v2 EVs.nil w2) w1) ?_ w1
        intro prog A s vs Q E hA hs r hQ
        refine hin L' R' a1 (by omega) a3 a2 a4 a5 F.Mu prog A s vs Q E hA hs.ok (CPre.of hs (fun x c e => by rw [M.cells]; exact e) fun p hp' => ⟨hsub p hp', ?_, ?_, ?_⟩) r hQ
        · obtain ⟨c, v, x, _⟩ := hp.has p hp'
          exact ⟨c, x⟩
        · rw [kdS hsc (freeOK_at hfo hp').1]; decide
        · revert p; exact memC (by rfl) (memC (by rfl) (memC (by rfl) memN))
      have hsz : R - L ≤ ds.length := by omega
      have hnl : n * (R - (L + R) / 2) ≤ 2 ^ 24 := Nat.le_trans (Nat.mul_le_mul_left n (by omega)) hn
      have hnm : n * ((L + R) / 2 - L) ≤ 2 ^ 24 := Nat.le_trans (Nat.mul_le_mul_left n (by omega)) hn
      refine XS.asg (d := .int (((L + R) / 2 : Nat) : Int)) H hA' (EV.toI (by walk_at "ev") ?q) (by walk_at "kd") (by walk_at "ne") ?_
      case q => rw [← Int.natCast_add]; exact fdiv2 _
      have hmul : IntMulOk ((((L + R) / 2 : Nat) : Int) - (L : Int)) (n : Int) := IntMulOk.of_le (m := 32) (n := 32) (bits_le (by omega) (by omega)) (bits_le (by omega) (by omega)) (by decide)
      refine XS.asg (d := .int ((((L + R) / 2 - L) * n : Nat) : Int)) H hA' (EV.toI (by walk_at "ev") ?q) (by walk_at "kd") (by walk_at "ne") ?_
      case q => rw [Int.natCast_mul, Int.natCast_sub (by omega)]
      obtain ⟨b1, b2⟩ := dig_lt n (part ds ((L + R) / 2) R) fun d h => hd d (part_mem h)
      rw [part_len (by omega)] at b2
      have sh : ((((L + R) / 2 - L) * n : Nat) : Int).toNat = n * ((L + R) / 2 - L) := by rw [Int.toNat_natCast, Nat.mul_comm]
      refine XS.ret (d := .int (dig n (part ds L R))) H hA' (EV.toI (EV.bin H (EV.bin H (hrec _ _ _ _ _ ((L + R) / 2) R (fun p hp => List.mem_append_right [_, _, _, _] hp) (by omega) (by omega) (by omega) (by omega) (by omega) (by walk_at "ev") (by walk_at "ev") rfl rfl) (by walk_at "ev") (T2.shl (by omega) ?b)) (hrec _ _ _ _ _ L ((L + R) / 2) (fun p hp => List.mem_append_right [_, _, _, _] hp) (by omega) (by omega) (by omega) (by omega) (by omega) (by walk_at "ev") (by walk_at "ev") rfl rfl) T2.add) ?q) (fin _)
      case b =>
        have := bits_le b1 b2
        have e1 : (((L + R) / 2 - L) * n : Nat) ≤ 2 ^ 24 := by rw [Nat.mul_comm]; exact hnm
        have e2 : ((((L + R) / 2 - L) * n : Nat) : Int) ≤ 2 ^ 24 := by exact_mod_cast e1
        omega
      case q =>
        have e := part_split (ds := ds) (L := L) (M := (L + R) / 2) (R := R) (by omega) (by omega)
        rw [sh, e, dig_append, part_len (by omega), Int.mul_comm]; omega
  induction j with
  | zero =>
    intro L R hLR hR hj
    exact one 0 L R hLR hR (.inl (by simp at hj; omega))
  | succ j ih =>
    intro L R hLR hR hj
    refine one (j + 1) L R hLR hR (.inr fun L' R' h1 h2 h3 h4 h5 h6 => ih L' R' h1 h2 ?_)
    rw [Nat.pow_succ] at hj; omega
end
section
variable {C : Base} {k : Nat} {Mu : Addr → Prop}
theorem len2 {α : Type} {vs : List α} (h : vs.length = 2) : ∃ v w, vs = [v, w] := by
  match vs, h with
  | [v, w], _ => exact ⟨v, w, rfl⟩
theorem digits2int_spec (G : PG C) {ds : List Int} {n : Nat} (hlen : ds.length ≤ 2 ^ 12) (hn0 : n ≤ 2 ^ 12) (hd : ∀ d ∈ ds, 0 ≤ d ∧ d < 2 ^ n) :
    TL C 14 Mu [.list (ds.map .int), .int n] (fun vs => call (.ref 49) vs) (.int (dig n ds)) := by
  have hnl : n * ds.length ≤ 2 ^ 24 := Nat.le_trans (Nat.mul_le_mul hn0 hlen) (by decide)
  refine TL.defPC G (n := 8) (cd := 48) (names := ["digits", "n"]) (by decide) (fun pm vs hv => by obtain ⟨v, w, rfl⟩ := len2 hv; kernel_rfl) (by decide +kernel) rfl ?_
  intro prog A F h₀ hsc hcode hqual M H hcs hA
  obtain ⟨ci, Ki⟩ := hcs "inner" (by decide +kernel)
  have hcells : ∀ x, (sc (stmtAt 8)).names.lookup x = some .cell → ∃ c, F.env.cells.lookup x = some c := fun x hx => let ⟨c, K⟩ := hcs x hx; ⟨c, K.at_⟩
  have hfree : ∀ p ∈ (sc (inSt 8 0)).names, p.2 = .free → ∃ c, F.env.cells.lookup p.1 = some c := by
    have : ∀ p ∈ (sc (inSt 8 0)).names, p.2 = .free → (sc (stmtAt 8)).names.lookup p.1 = some .cell := by decide +kernel
    exact fun p hp hf => hcells _ (this p hp hf)
  refine XS.nest H (params := ar (inSt 8 0)) (body := bd (inSt 8 0)) (scope := sc (inSt 8 0)) G.nest2 hcode ?hq (by kernel_rfl) (by kernel_rfl) Ki hfree (by kernel_rfl) (by kernel_rfl) (by kernel_rfl) (by walk_at "ne") ?_
  case hq =>
    have e1 : F.env.kindOf "inner" = some .cell := kd hsc (by decide +kernel)
    unfold qualnameIn
    rw [e1, hqual]; decide +kernel
  intro f c' oc ovs t doc pm ctv h1 h2
  have hrho : ∀ p ∈ d2iR ds n f c' oc (closL F.env (sc (inSt 8 0)).names []) doc pm ctv, p ∈ ([("inner", D.obj f [(f, fnMade "inner" "_digits2int.<locals>.inner" (ar (inSt 8 0)) (bd (inSt 8 0)) (sc (inSt 8 0)) (closL F.env (sc (inSt 8 0)).names []) doc pm c' ctv), (c', oc)]), ("digits", .list (ds.map .int)), ("n", .int n)] : Rho) := fun p hp => by
    revert p
    exact memC (List.Mem.tail _ (List.Mem.head _)) (memC (List.Mem.tail _ (List.Mem.tail _ (List.Mem.head _))) (memC (List.Mem.head _) memN))
  refine XS.ret (d := .int (dig n ds)) H hA (EV.ifx (b := !(ds.map D.int).isEmpty) H ?t (fun hb => ?a) (fun hb => ?b)) Ret.of
  case t => exact TT.val H (d := .list (ds.map .int)) (by walk_at "ev") (by simp [D.truthOk]; omega) rfl
  case b =>
    have : ds = [] := by simpa using hb
    subst this
    exact EV.int 0
  case a =>
    have hpos : 0 < ds.length := by
      cases ds with
      | nil => simp at hb
      | cons => simp
    refine EV.callV H (l := [(c', oc)]) (List.Mem.head _) rfl (EVs.cons (d := .int ((0 : Nat) : Int)) H (EV.int 0) (EVs.cons (d := .int ((ds.map D.int).length : Nat)) H ?hl EVs.nil)) ?_
    case hl =>
      refine EV.callB H (kd hsc (by decide +kernel)) (List.Mem.head _) (EVs.cons H ?_ EVs.nil) (TL.lenl (by simp; omega))
      walk_at "ev"
    intro prog A s vs Q E hA hs r hQ
    have r' : RepL (vis F.Mu s.heap) vs [.int ((0 : Nat) : Int), .int (ds.length : Int)] := by rw [List.length_map] at r; exact r
    refine d2i_inner (cl := closL F.env (sc (inSt 8 0)).names []) (f := f) (c' := c') (doc := doc) (pm := pm) (ctv := ctv) hnl (by omega) (by omega) hd h1 h2 12 0 ds.length hpos (Nat.le_refl _) (by omega) F.Mu prog A s vs Q E hA hs.ok ?_ r' (by rw [part_all]; exact hQ)
    refine CPre.of hs (fun x c e => closL_lookup hfree e) fun p hp => ⟨hrho p hp, ?_, ?_, ?_⟩
    · have : ∀ x ∈ (["digits", "n", "inner"] : List Str), (x, NameKind.free) ∈ (sc (inSt 8 0)).names := by decide +kernel
      have hx : p.1 ∈ (["digits", "n", "inner"] : List Str) := by
        revert p; exact memC (by first | exact List.Mem.head _ | exact List.Mem.tail _ (List.Mem.head _) | exact List.Mem.tail _ (List.Mem.tail _ (List.Mem.head _))) (memC (by first | exact List.Mem.head _ | exact List.Mem.tail _ (List.Mem.head _) | exact List.Mem.tail _ (List.Mem.tail _ (List.Mem.head _))) (memC (by first | exact List.Mem.head _ | exact List.Mem.tail _ (List.Mem.head _) | exact List.Mem.tail _ (List.Mem.tail _ (List.Mem.head _))) memN))
      obtain ⟨c, e, _⟩ := closL_free hfree (this _ hx)
      exact ⟨c, e⟩
    · have : ∀ x ∈ (["digits", "n", "inner"] : List Str), (sc (stmtAt 8)).names.lookup x = some .cell := by decide +kernel
      have hx : p.1 ∈ (["digits", "n", "inner"] : List Str) := by
        revert p; exact memC (by first | exact List.Mem.head _ | exact List.Mem.tail _ (List.Mem.head _) | exact List.Mem.tail _ (List.Mem.tail _ (List.Mem.head _))) (memC (by first | exact List.Mem.head _ | exact List.Mem.tail _ (List.Mem.head _) | exact List.Mem.tail _ (List.Mem.tail _ (List.Mem.head _))) (memC (by first | exact List.Mem.head _ | exact List.Mem.tail _ (List.Mem.head _) | exact List.Mem.tail _ (List.Mem.tail _ (List.Mem.head _))) memN))
      rw [kd hsc (this _ hx)]; decide
    · revert p; exact memC (by rfl) (memC (by rfl) (memC (by rfl) memN))
end
theorem fdiv2' (a : Nat) : Int.fdiv (a : Int) (2 ^ (1 : Int).toNat) = ((a / 2 : Nat) : Int) := by
  show Int.fdiv (a : Int) 2 = _
  rw [Int.fdiv_eq_ediv_of_nonneg _ (by decide)]; rfl
noncomputable abbrev i2dR (n : Nat) (f c' : Addr) (oc : Obj) (cl : List (Str × Addr)) (doc pm ctv : Value) : Rho := [("n", .int n), ("inner", .obj f [(f, fnMade "inner" "_int2digits.<locals>.inner" (ar (inSt 7 1)) (bd (inSt 7 1)) (sc (inSt 7 1)) cl doc pm c' ctv), (c', oc)])]
theorem i2d_mid {L R : Nat} (h : L < R) (hne : ¬ R = L + 1) : ∃ m, (L + R) / 2 = m ∧ L < m ∧ m < R ∧ m - L < R - L ∧ m - L ≤ (R - L + 1) / 2 ∧ R - m < R - L ∧ R - m ≤ (R - L + 1) / 2 :=
  ⟨(L + R) / 2, rfl, by omega, by omega, by omega, by omega, by omega, by omega⟩
theorem i2d_mul {m L n : Nat} (h : L < m) (hm : m ≤ 2 ^ 12) (hn : n ≤ 2 ^ 12) : IntMulOk ((m : Int) - (L : Int)) (n : Int) :=
  IntMulOk.of_le (m := 32) (n := 32) (bits_le (by omega) (by omega)) (bits_le (by omega) (by omega)) (by decide)
theorem i2d_sp {n L m R : Nat} (a1 : L < m) (a2 : m < R) : n * (R - L) = (m - L) * n + n * (R - m) := by
  rw [Nat.mul_comm _ n, ← Nat.mul_add]; congr 1; omega
theorem i2d_big {n a b : Nat} (hn : n ≤ 2 ^ 12) (ha : a ≤ 2 ^ 12) (hb : b ≤ 2 ^ 12) {i : Nat} (hi : i ≤ n * b) : ((i : Nat) : Int) + ((a * n : Nat) : Int) ≤ 2 ^ 27 := by
  have h1 : n * b ≤ 2 ^ 24 := Nat.le_trans (Nat.mul_le_mul hn hb) (by decide)
  have h2 : a * n ≤ 2 ^ 24 := Nat.le_trans (Nat.mul_le_mul ha hn) (by decide)
  omega
theorem i2d_len {L m R len k : Nat} (a1 : L < m) (a2 : m < R) (hR : R ≤ len) (hk : k = len) : L + (m - L) ≤ k := by omega
theorem i2d_len2 {L m R len k : Nat} (a1 : L < m) (a2 : m < R) (hR : R ≤ len) (hk : k = len) : L + (m - L) + (R - m) ≤ k := by omega
theorem i2d_flat {ds : List D} {n m L : Nat} {x : Int} (hflat : ds.all D.flat = true) : (putAt ds L ((figs n m x).map .int)).all D.flat = true := by
  unfold putAt
  rw [List.all_append, List.all_append, Bool.and_eq_true, Bool.and_eq_true]
  refine ⟨⟨List.all_eq_true.mpr fun d hd => List.all_eq_true.mp hflat d (List.mem_of_mem_take hd), List.all_eq_true.mpr fun d hd => ?_⟩, List.all_eq_true.mpr fun d hd => List.all_eq_true.mp hflat d (List.mem_of_mem_drop hd)⟩
  obtain ⟨i, _, rfl⟩ := List.mem_map.mp hd
  rfl
theorem i2d_put {ds : List D} {n L m R len : Nat} {x : Int} (a1 : L < m) (a2 : m < R) (hR : R ≤ len) (hk : ds.length = len) (hx0 : 0 ≤ x) :
    putAt (putAt ds L ((figs n (m - L) (x % 2 ^ ((m - L) * n))).map .int)) m ((figs n (R - m) (x / 2 ^ ((m - L) * n))).map .int) = putAt ds L ((figs n (R - L) x).map .int) := by
  have e5 := figs_split n (m - L) (R - m) x hx0
  rw [show m - L + (R - m) = R - L by omega, Nat.mul_comm n] at e5
  rw [e5, List.map_append]
  have e6 : m = L + ((figs n (m - L) (x % 2 ^ ((m - L) * n))).map D.int).length := by rw [List.length_map, figs_len]; omega
  have e7 := putAt_two (ds := ds) (L := L) (f := (figs n (m - L) (x % 2 ^ ((m - L) * n))).map D.int) (g := (figs n (R - m) (x / 2 ^ ((m - L) * n))).map D.int) (by rw [List.length_map, List.length_map, figs_len, figs_len]; exact i2d_len2 a1 a2 hR hk)
  rw [← e6] at e7
  exact e7
theorem i2d_up {n L m R : Nat} {x : Int} (a1 : L < m) (a2 : m < R) (hx : x < 2 ^ (n * (R - L))) : x / 2 ^ ((m - L) * n) < 2 ^ (n * (R - m)) := by
  rw [i2d_sp a1 a2, Int.pow_add] at hx
  exact Int.ediv_lt_of_lt_mul (Int.pow_pos (by decide)) (by rw [Int.mul_comm]; exact hx)
theorem i2d_few {x : Int} {n L : Nat} (hx0 : 0 ≤ x) (hx : x < 2 ^ (n * (L + 1 - L))) : figs n (L + 1 - L) x = [x] := by
  rw [Nat.add_sub_cancel_left, Nat.mul_one] at hx
  rw [Nat.add_sub_cancel_left, figs, figs, Int.emod_eq_of_lt hx0 hx]
noncomputable def I2D (C : Base) (n len : Nat) (f c' : Addr) (oc : Obj) (cl : List (Str × Addr)) (doc pm ctv : Value) (j L R : Nat) (x : Int) : Prop :=
  ∀ (Mu : Addr → Prop) (prog : Program) (A : Around) (s : Shared) (vs us : List Value) (l c n₀ : Nat) (ds : List D) (Q : Value → Shared → Prop) (E : Value → Shared → Prop), Rm j A → OK C Mu s → CPre Mu cl (i2dR n f c' oc cl doc pm ctv) s.heap →
    Mu l → s.heap.get? l = some (listO us n₀) → RepL (vis Mu s.heap) us ds → ds.all D.flat = true → ds.length = len → cl.lookup ("a_digits" : Str) = some c → s.heap.IsCell c (some (.ref l)) → RepL (vis Mu s.heap) vs [.int x, .int L, .int R] →
    (∀ s' us' n', StepX (· = l) s s' → s'.heap.get? l = some (listO us' n') → RepL (vis Mu s'.heap) us' (putAt ds L ((figs n (R - L) x).map .int)) → Q .none s') → wpAny (model prog C.w) A (call (.ref f) vs) Q E s
section
variable {C : Base}
theorem i2d_one {n len : Nat} (hlen : len ≤ 2 ^ 12) (hn0 : n ≤ 2 ^ 12) {f c' : Addr} {oc : Obj} {ovs : Array Value} {t : Tok} {doc pm ctv : Value} {cl : List (Str × Addr)} (h1 : oc.data = .fields ovs) (h2 : ovs[1]? = some (.str "_int2digits.<locals>.inner" t))
    (j L R : Nat) (x : Int) (hLR : L < R) (hR : R ≤ len) (hx0 : 0 ≤ x) (hx : x < 2 ^ (n * (R - L))) (hin : R = L + 1 ∨ ∀ (L' R' : Nat) (x' : Int), L' < R' → R' ≤ R → L ≤ L' → R' - L' < R - L → R' - L' ≤ (R - L + 1) / 2 → 0 ≤ x' → x' < 2 ^ (n * (R' - L')) → I2D C n len f c' oc cl doc pm ctv j L' R' x') :
    I2D C n len f c' oc cl doc pm ctv (j + 1) L R x := by
  have q1 : ∀ x ∈ (["x", "L", "R"] : List Str), (sc (inSt 7 1)).names.lookup x = some .local := by decide +kernel
  have q2 : ∀ x ∈ (sc (inSt 7 1)).names, x.2 ≠ .cell := by decide +kernel
  have q3 : (sc (inSt 7 1)).isCoroutine = false := by decide +kernel
  have q4 : (sc (inSt 7 1)).isGenerator = false := by decide +kernel
  have q5 : (sc (inSt 7 1)).kind = .function := by decide +kernel
  intro Mu prog A s vs us l c n₀ ds Q E hA ho hp hml hl hus hflat hds hca hcell r hQ
  obtain ⟨ci, vi, hci, hcelli, ri⟩ := hp.has _ (List.mem_cons_of_mem _ (List.mem_cons_self ..))
  obtain ⟨rfl, hob⟩ := ri.obj_i
  have e1 := hob _ (List.mem_cons_self ..)
  have e2 := hob _ (List.mem_cons_of_mem _ (List.mem_cons_self ..))
  have ntl : ¬ isTab l := notTab_seq ho.tabs hl rfl
  refine call_clos (X := (· = l)) (names := ["x", "L", "R"]) (body := bd (inSt 7 1)) (ρc := ("a_digits", .own ds) :: i2dR n f c' oc cl doc pm ctv)
    hA ho e1.2 rfl ⟨c', oc, ovs, t, rfl, e2.2, h1, h2⟩ rfl r (by obtain ⟨v, w, u, rfl, _⟩ := r.three; kernel_rfl) rfl (by decide +kernel) q1 q2 rfl rfl q3 q4 q5 (fun _ h => h ▸ hml) (fun _ h => h ▸ ntl) hp.cells (by kernel_rfl) (fun p hpm => ?_) ?_
  · rcases List.mem_cons.mp hpm with rfl | hpm
    · exact ⟨c, _, hca, hcell, fun F hX hv => ⟨l, us, n₀, rfl, hX l rfl, hl, hus.mono hv⟩⟩
    · obtain ⟨c, v, q1, q2, q3⟩ := hp.has p hpm
      refine ⟨c, v, q1, q2, fun F _ hv => .of (q3.mono hv)⟩
  intro F M hA'
  have H := M.fok
  have hsc : F.env.scope = sc (inSt 7 1) := M.sc
  have hfo : freeOK (sc (inSt 7 1)) (i2dR n f c' oc cl doc pm ctv) = true := by kernel_rfl
  have hka : F.env.kindOf "a_digits" = some .free := kdS hsc (by decide +kernel)
  -- how the call ends
  have fin : ∀ (ρ : Rho) s', St C F (("a_digits", .own (putAt ds L ((figs n (R - L) x).map .int))) :: ρ) s' → Q .none s' := fun ρ s' hs => by
    have st := M.step ho hs
    obtain ⟨l', us', n', m', w', e', r', nn', a', _⟩ := hs.ownAt (List.mem_cons_self ..)
    have : l' = l := by
      rcases a' with ⟨q, _⟩ | ⟨_, c₂, q2, o, q3, q4⟩
      · rw [hka] at q; cases q
      · rw [M.cells, hca] at q2; cases q2
        obtain ⟨oc, c1, c2⟩ := hcell
        have nt := notTab_cell ho.tabs ⟨oc, c1, c2⟩
        have ne : ¬ c = l := fun q => by rw [q, hl] at c1; cases c1; cases c2
        have := st.keep c oc nt ne c1
        rw [q3] at this; cases this
        rw [c2] at q4; cases q4; rfl
    subst this
    exact hQ s' us' n' st e' (r'.mono fun a o v => ⟨fun hm => v.1 (M.mu a hm), v.2⟩)
  show XS prog C (A.deeper F.env) F [("x", .int x), ("L", .int L), ("R", .int R), ("a_digits", .own ds), ("n", .int n), ("inner", _)] (bd (inSt 7 1)) _ NoE
  refine XS.iff (b := ((L : Int) + 1 == (R : Int))) H hA' (by walk_at "tt") (fun hb => ?_) (fun hb => ?_)
  · obtain rfl : R = L + 1 := Int.ofNat.inj (eq_of_beq hb).symm
    have hlt : L < ds.length := hds ▸ hR
    refine XS.setItem H hA' (d := .int x) (iv := L) (ρ' := []) (by walk_at "mem") (by walk_at "ev") (by walk_at "ev") hlt (hds ▸ Nat.lt_of_le_of_lt hlen (by decide)) (fun _ h => nomatch h) ?_
    refine XS.retN fun s' hs => ?_
    refine fin [] s' ?_
    rw [i2d_few hx0 hx, List.map_cons, List.map_nil, ← putAt_one hlt]
    exact hs
  · refine XS.thenn (ρ' := [("x", .int x), ("L", .int L), ("R", .int R), ("a_digits", .own ds), ("n", .int n), ("inner", _)]) ?_ (fun p hp => hp)
    have hne : ¬ R = L + 1 := fun q => by subst q; simp at hb
    have hin := hin.resolve_left hne
    obtain ⟨m, hm, a1, a2, a3, a4, a5, a6⟩ := i2d_mid hLR hne
    have hm12 : m ≤ 2 ^ 12 := Nat.le_trans (Nat.le_of_lt a2) (Nat.le_trans hR hlen)
    have hmul : IntMulOk ((m : Int) - (L : Int)) (n : Int) := i2d_mul a1 hm12 hn0
    refine XS.asg (d := .int (m : Int)) H hA' (EV.toI (by walk_at "ev") ?q) (by walk_at "kd") (by walk_at "ne") ?_
    case q => rw [← hm, ← Int.natCast_add]; exact fdiv2' _
    refine XS.asg (d := .int (((m - L) * n : Nat) : Int)) H hA' (EV.toI (by walk_at "ev") ?q) (by walk_at "kd") (by walk_at "ne") ?_
    case q => rw [Int.natCast_mul, Int.natCast_sub (Nat.le_of_lt a1)]
    refine XS.asg (d := .int (x / 2 ^ ((m - L) * n))) H hA' (EV.toI (by walk_at "ev") ?q) (by walk_at "kd") (by walk_at "ne") ?_
    case q => exact fdiv_pow _ _
    have hp2 : (0 : Int) < 2 ^ ((m - L) * n) := Int.pow_pos (by decide)
    have hu0 : 0 ≤ x / 2 ^ ((m - L) * n) := Int.ediv_nonneg hx0 (Int.le_of_lt hp2)
    have hu1 : x / 2 ^ ((m - L) * n) < 2 ^ (n * (R - m)) := i2d_up a1 a2 hx
    have hl0 : 0 ≤ x % 2 ^ ((m - L) * n) := Int.emod_nonneg _ (Int.ne_of_gt hp2)
    have hl1 : x % 2 ^ ((m - L) * n) < 2 ^ (n * (m - L)) := by rw [Nat.mul_comm n]; exact Int.emod_lt_of_pos _ hp2
    have hshl : (Builtin.Int.intBits (x / 2 ^ ((m - L) * n)) : Int) + (((m - L) * n : Nat) : Int) ≤ 2 ^ 27 := i2d_big hn0 (Nat.le_trans (Nat.sub_le m L) hm12) (Nat.le_trans (Nat.sub_le R m) (Nat.le_trans hR hlen)) (bits_le hu0 hu1)
    refine XS.asg (d := .int (x % 2 ^ ((m - L) * n))) H hA' (EV.toI (by walk_at "ev") ?q) (by walk_at "kd") (by walk_at "ne") ?_
    case q => rw [Int.toNat_natCast]; exact xor_low _ _ hx0
    have hrec : ∀ (ρ : Rho) (dsx : List D) (L' R' : Nat) (x' : Int), (∀ p ∈ i2dR n f c' oc cl doc pm ctv, p ∈ ρ) → dsx.length = len → dsx.all D.flat = true → L' < R' → R' ≤ R → L ≤ L' → R' - L' < R - L → R' - L' ≤ (R - L + 1) / 2 → 0 ≤ x' → x' < 2 ^ (n * (R' - L')) →
        ∀ (s : Shared) (vs us : List Value) (l : Addr) (n₁ : Nat) (m : Str → Option Value) (Q : Value → Shared → Prop) (E : Value → Shared → Prop), St C F ρ s → F.own l → s.heap.get? l = some (listO us n₁) → RepL (vis F.Mu s.heap) us dsx → At F s.heap m "a_digits" (.ref l) → s.heap.Ns F.env.locals m → RepL (vis F.Mu s.heap) vs [.int x', .int L', .int R'] →
      (∀ s' us' n', StepX (· = l) s s' → s'.heap.get? l = some (listO us' n') → RepL (vis F.Mu s'.heap) us' (putAt dsx L' ((figs n (R' - L') x').map .int)) → Q .none s') → wpAny (model prog C.w) (A.deeper F.env) (call (.ref f) vs) Q E s := by
      intro ρ dsx L' R' x' hsub g1 g2 a1 a2 a3 a4 a5 a6 a7 s vs us l n₁ m Q E hs w e r hat _ rv hQ
      rcases hat with ⟨q, _⟩ | ⟨_, c₂, q2, q3⟩
      · rw [hka] at q; cases q
      · rw [M.cells, hca] at q2
        cases q2
        refine hin L' R' x' a1 a2 a3 a4 a5 a6 a7 F.Mu prog _ s vs us l c n₁ dsx Q E hA' hs.ok (CPre.of hs (fun x c e => by rw [M.cells]; exact e) fun p hp' => ⟨hsub p hp', ?_, ?_, ?_⟩) (H.ownMu l w) e r g2 g1 hca q3 rv hQ
        · obtain ⟨c, v, x, _⟩ := hp.has p hp'
          exact ⟨c, x⟩
        · rw [kdS hsc (freeOK_at hfo hp').1]; decide
        · revert p; exact memC (by rfl) (memC (by rfl) memN)
    have len1 : (putAt ds L ((figs n (m - L) (x % 2 ^ ((m - L) * n))).map .int)).length = len := by
      rw [putAt_len (by rw [List.length_map, figs_len]; exact i2d_len a1 a2 hR hds)]; exact hds
    have flat1 : (putAt ds L ((figs n (m - L) (x % 2 ^ ((m - L) * n))).map .int)).all D.flat = true := i2d_flat hflat
    refine XS.callX H (y := "a_digits") (as := [.int (x % 2 ^ ((m - L) * n)), .int L, .int (m : Nat)]) (ds := ds) (ol := [(c', oc)]) (ρ' := (([("lower", .int (x % 2 ^ ((m - L) * n))), ("upper", .int (x / 2 ^ ((m - L) * n))), ("shift", .int (((m - L) * n : Nat) : Int)), ("mid", .int (m : Int)), ("x", .int x), ("L", .int L), ("R", .int R)] : Rho) ++ i2dR n f c' oc cl doc pm ctv)) hA' (by walk_at "mem") rfl (by walk_at "mem") (by walk_at "evs") (hrec _ ds L m _ ?sub hds hflat a1 (Nat.le_of_lt a2) (Nat.le_refl L) a3 a4 hl0 hl1) ?own ?_
    case sub => exact memC (by walk_at "mem") (memC (by walk_at "mem") memN)
    case own => exact memA (memC ⟨by walk_at "mem", rfl⟩ (memC ⟨by walk_at "mem", rfl⟩ (memC ⟨by walk_at "mem", rfl⟩ (memC ⟨by walk_at "mem", rfl⟩ (memC ⟨by walk_at "mem", rfl⟩ (memC ⟨by walk_at "mem", rfl⟩ (memC ⟨by walk_at "mem", rfl⟩ memN))))))) (memC ⟨by walk_at "mem", rfl⟩ (memC ⟨by walk_at "mem", rfl⟩ memN))
    refine XS.callX H (y := "a_digits") (as := [.int (x / 2 ^ ((m - L) * n)), .int (m : Nat), .int R]) (ol := [(c', oc)]) (ρ' := []) hA' (by walk_at "mem") rfl (by walk_at "mem") (by walk_at "evs") (hrec _ _ m R _ ?sub len1 flat1 a2 (Nat.le_refl R) (Nat.le_of_lt a1) a5 a6 hu0 hu1) (fun p hp => nomatch hp) ?_
    case sub => exact memC (by walk_at "mem") (memC (by walk_at "mem") memN)
    refine XS.nil fun s' hs => fin [] s' ?_
    have e4 := i2d_put (n := n) (x := x) a1 a2 hR hds hx0
    rw [← e4]; exact hs
end
section
variable {C : Base} {k : Nat} {Mu : Addr → Prop}
theorem i2d_inner {n len : Nat} (hlen : len ≤ 2 ^ 12) (hn0 : n ≤ 2 ^ 12) {f c' : Addr} {oc : Obj} {ovs : Array Value} {t : Tok} {doc pm ctv : Value} {cl : List (Str × Addr)} (h1 : oc.data = .fields ovs) (h2 : ovs[1]? = some (.str "_int2digits.<locals>.inner" t)) :
    ∀ (j L R : Nat) (x : Int), L < R → R ≤ len → R - L ≤ 2 ^ j → 0 ≤ x → x < 2 ^ (n * (R - L)) → I2D C n len f c' oc cl doc pm ctv (j + 1) L R x := by
  intro j
  induction j with
  | zero => intro L R x hLR hR hj h0 hx; exact i2d_one hlen hn0 h1 h2 0 L R x hLR hR h0 hx (.inl (by simp at hj; omega))
  | succ j ih =>
    intro L R x hLR hR hj h0 hx
    refine i2d_one hlen hn0 h1 h2 (j + 1) L R x hLR hR h0 hx (.inr fun L' R' x' a1 a2 a3 a4 a5 a6 a7 => ih L' R' x' a1 (by omega) ?_ a6 a7)
    rw [Nat.pow_succ] at hj; omega
theorem len2' {α : Type} {vs : List α} (h : vs.length = 2) : ∃ v w, vs = [v, w] := by
  match vs, h with
  | [v, w], _ => exact ⟨v, w, rfl⟩
noncomputable def i2dLen (a : Int) (n : Nat) : Nat := (Builtin.Int.intBits a + n - 1) / n
theorem putAt_rep {m : Nat} {fs : List D} {d : D} (h : fs.length = m) : putAt (List.replicate m d) 0 fs = fs := by
  unfold putAt; simp [h]
theorem rep_flat (m : Nat) (d : D) : (List.replicate m [d]).flatten = List.replicate m d := by
  induction m with
  | zero => rfl
  | succ m ih => rw [List.replicate_succ, List.flatten_cons, ih, List.replicate_succ]; rfl
theorem i2dLen_le (a : Int) {n : Nat} (hn : 0 < n) : i2dLen a n ≤ Builtin.Int.intBits a := by
  show (Builtin.Int.intBits a + n - 1) / n ≤ _
  generalize Builtin.Int.intBits a = A
  cases A with
  | zero => rw [Nat.div_eq_of_lt (by omega)]; exact Nat.le_refl _
  | succ A =>
    refine Nat.div_le_of_le_mul ?_
    have : n * A ≥ A := Nat.le_mul_of_pos_left _ hn
    rw [Nat.mul_add]; omega
theorem EVF.toD {F : Fn} {ρ : Rho} {e : Expr} {ds ds' : List D} (h : EVF C k F ρ e ds) (q : ds = ds') : EVF C k F ρ e ds' := q ▸ h
theorem int2digits_spec (G : PG C) {a : Int} {n : Nat} (ha : 0 ≤ a) (hn : 0 < n) (hn0 : n ≤ 2 ^ 12) (hl : Builtin.Int.intBits a ≤ 2 ^ 12 - 2 ^ 8) :
    TL C 14 Mu [.int a, .int n] (fun vs => call (.ref 42) vs) (.list ((figs n (i2dLen a n) a).map .int)) := by
  have hlen : i2dLen a n ≤ 2 ^ 12 := Nat.le_trans (i2dLen_le _ hn) (by omega)
  refine TL.defPC G (n := 7) (cd := 41) (names := ["a", "n"]) (by decide) (fun pm vs hv => by obtain ⟨v, w, rfl⟩ := len2' hv; kernel_rfl) (by decide +kernel) rfl ?_
  intro prog A F h₀ hsc hcode hqual M H hcs hA
  obtain ⟨ca, Ka⟩ := hcs "a_digits" (by decide +kernel)
  obtain ⟨ci, Ki⟩ := hcs "inner" (by decide +kernel)
  have hdiv : Int.fdiv ((Builtin.Int.intBits a : Int) + (n : Int) - 1) (n : Int) = ((i2dLen a n : Nat) : Int) := by
    unfold i2dLen
    rw [Int.fdiv_eq_ediv_of_nonneg _ (by omega)]
    have : ((Builtin.Int.intBits a : Int) + (n : Int) - 1) = ((Builtin.Int.intBits a + n - 1 : Nat) : Int) := by omega
    rw [this]; rfl
  refine XS.ownC (Sub.refl M) (ds := List.replicate (i2dLen a n) (.int 0)) Ka hA ?ev (by simp [D.flat]) (by walk_at "ne") ?_
  case ev =>
    refine EVF.toD (EVF.mull (xs := [.int 0]) (n := ((i2dLen a n : Nat) : Int)) H (by walk_at "ev") (EV.toI (EV.bin H (EV.bin H (EV.bin H (EV.meth0 H (by walk_at "ev") GetM.bitlen TL.bitlen) (by walk_at "ev") T2.add) (EV.int 1) T2.sub) (by walk_at "ev") (T2.fdiv (by omega) (PyProof.noPylong_small (by omega)))) hdiv) (by omega) (by omega) (by simp; omega)) (by rw [Int.toNat_natCast, rep_flat])
  have hcells : ∀ x, (sc (stmtAt 7)).names.lookup x = some .cell → ∃ c, F.env.cells.lookup x = some c := fun x hx => let ⟨c, K⟩ := hcs x hx; ⟨c, K.at_⟩
  have hfree : ∀ p ∈ (sc (inSt 7 1)).names, p.2 = .free → ∃ c, F.env.cells.lookup p.1 = some c := by
    have : ∀ p ∈ (sc (inSt 7 1)).names, p.2 = .free → (sc (stmtAt 7)).names.lookup p.1 = some .cell := by decide +kernel
    exact fun p hp hf => hcells _ (this p hp hf)
  intro F₂ S up
  have H₂ := S.fok
  have hsc₂ : F₂.env.scope = sc (stmtAt 7) := by rw [S.env]; exact hsc
  refine XS.nest H₂ (params := ar (inSt 7 1)) (body := bd (inSt 7 1)) (scope := sc (inSt 7 1)) G.nest1 (by rw [S.env]; exact hcode) ?hq (by kernel_rfl) (by kernel_rfl) (up _ _ Ki) (by rw [S.env]; exact hfree) (by kernel_rfl) (by kernel_rfl) (by kernel_rfl) (by walk_at "ne") ?_
  case hq =>
    have e1 : F₂.env.kindOf "inner" = some .cell := kd hsc₂ (by decide +kernel)
    unfold qualnameIn
    rw [e1, S.env, hqual]; decide +kernel
  intro f c' oc ovs t doc pm ctv h1 h2
  have hrest : XS prog C A F₂ [("a_digits", .own ((figs n (i2dLen a n) a).map .int))] ((bd (stmtAt 7)).drop 3) (Ret C F (.list ((figs n (i2dLen a n) a).map .int))) NoE := by
    refine XS.freeze S M.ownC (ρ₂ := [("a_digits", .list ((figs n (i2dLen a n) a).map .int))]) (List.Mem.head _) (fun p hp => .inl (List.mem_singleton.mp hp)) fun F₃ S₃ => ?_
    have H₃ := S₃.fok
    exact XS.ret H₃ hA (by walk_at "ev") (Ret.up S₃)
  refine XS.iff (b := (a != 0)) H₂ hA (TT.val H₂ (d := .int a) (by walk_at "ev") rfl rfl) (fun hb => ?_) (fun hb => ?_)
  · have hne : a ≠ 0 := by simpa using hb
    have hbits : n * i2dLen a n ≥ Builtin.Int.intBits a := by
      unfold i2dLen
      have e1 := Nat.div_add_mod (Builtin.Int.intBits a + n - 1) n
      have e2 := Nat.mod_lt (Builtin.Int.intBits a + n - 1) hn
      omega
    have hb0 : 0 < Builtin.Int.intBits a := by unfold Builtin.Int.intBits; simp [hne]
    have hpos : 0 < i2dLen a n := by
      rcases Nat.eq_zero_or_pos (i2dLen a n) with q | q
      · rw [q] at hbits; simp at hbits; omega
      · exact q
    have hlt : a < 2 ^ (n * (i2dLen a n - 0)) := by
      have q := intBits_le_iff.mp hbits
      have q2 : ((a.natAbs : Nat) : Int) < ((2 ^ (n * i2dLen a n) : Nat) : Int) := by exact_mod_cast q
      rw [Int.natAbs_of_nonneg ha] at q2
      push_cast at q2
      exact q2
    refine XS.callX H₂ (y := "a_digits") (ds := List.replicate (i2dLen a n) (.int 0)) (ds' := (figs n (i2dLen a n) a).map .int) (as := [.int a, .int ((0 : Nat) : Int), .int ((i2dLen a n : Nat) : Int)]) (ol := [(c', oc)]) (ρ' := []) hA (List.Mem.head _) rfl (List.Mem.tail _ (List.Mem.head _)) ?args ?call (fun p hp => nomatch hp) (XS.thenn hrest fun p hp => hp)
    case args =>
      refine EVs.cons H₂ (by walk_at "ev") (EVs.cons (d := .int ((0 : Nat) : Int)) H₂ (EV.int 0) (EVs.cons H₂ ?_ EVs.nil))
      refine EV.view H₂ (x := "a_digits") (ds := List.replicate (i2dLen a n) (.int 0)) (ρ₂ := [("a_digits", .list (List.replicate (i2dLen a n) (.int 0)))]) (List.Mem.tail _ (List.Mem.head _)) rfl (fun p hp => .inl (List.mem_singleton.mp hp)) fun F₄ H₄ he => ?_
      have hsc₄ : F₄.env.scope = sc (stmtAt 7) := by rw [he]; exact hsc₂
      refine EV.toI (EV.callB H₄ (kd hsc₄ (by decide +kernel)) (List.Mem.head _) (EVs.cons H₄ (by walk_at "ev") EVs.nil) (TL.lenl (by simp; omega))) (by simp)
    case call =>
      intro s vs us l n₁ m Q E hs w e r hat _ rv hQ
      rcases hat with ⟨q, _⟩ | ⟨_, c₂, q2, q3⟩
      · rw [kd (q := .cell) hsc₂ (by decide +kernel)] at q; cases q
      · have hfree₂ : ∀ p ∈ (sc (inSt 7 1)).names, p.2 = .free → ∃ c, F₂.env.cells.lookup p.1 = some c := by rw [S.env]; exact hfree
        obtain ⟨c₃, e3, e4⟩ := closL_free hfree₂ (show ((("a_digits" : Str), NameKind.free) ∈ (sc (inSt 7 1)).names) by decide +kernel)
        rw [e4] at q2; cases q2
        have hfo : freeOK (sc (inSt 7 1)) (i2dR n f c' oc (closL F₂.env (sc (inSt 7 1)).names []) doc pm ctv) = true := by kernel_rfl
        refine i2d_inner (f := f) (c' := c') (doc := doc) (pm := pm) (ctv := ctv) (cl := closL F₂.env (sc (inSt 7 1)).names []) hlen hn0 h1 h2 12 0 (i2dLen a n) a hpos (Nat.le_refl _) hlen ha hlt F₂.Mu prog A s vs us l c₂ n₁ _ Q E hA hs.ok (CPre.of hs (fun x c e => closL_lookup hfree₂ e) fun p hp => ⟨?_, ?_, ?_, ?_⟩) (H₂.ownMu l w) e r (by simp [D.flat]) (by simp) e3 q3 rv fun s' us' n' y1 y2 y3 => hQ s' us' n' y1 y2 ?_
        · revert p; exact memC (by (walk_at "mem")) (memC (by (walk_at "mem")) memN)
        · obtain ⟨c, e, _⟩ := closL_free hfree₂ (lookup_mem (freeOK_at hfo hp).1)
          exact ⟨c, e⟩
        · have : ∀ p ∈ (sc (inSt 7 1)).names, p.2 = .free → (sc (stmtAt 7)).names.lookup p.1 = some .cell := by decide +kernel
          rw [kd hsc₂ (this _ (lookup_mem (freeOK_at hfo hp).1) rfl)]; decide
        · revert p; exact memC (by rfl) (memC (by rfl) memN)
        · rw [Nat.sub_zero, putAt_rep (by rw [List.length_map, figs_len])] at y3; exact y3
  · have : a = 0 := by simpa using hb
    subst this
    refine XS.thenn hrest fun p hp => ?_
    rw [List.mem_singleton.mp hp]
    have e0 : i2dLen 0 n = 0 := by
      unfold i2dLen
      exact Nat.div_eq_of_lt (by simp [Builtin.Int.intBits]; omega)
    rw [e0]
    exact List.Mem.tail _ (List.Mem.head _)
end
section
variable {C : Base} {k : Nat} {Mu : Addr → Prop}
theorem len3 {α : Type} {vs : List α} (h : vs.length = 3) : ∃ v w x, vs = [v, w, x] := by
  match vs, h with
  | [v, w, x], _ => exact ⟨v, w, x, rfl⟩
theorem div2n1n_spec (G : PG C) {a b n : Int} (hb : b ≠ 0) (hp : Builtin.divisionGoesByPylong a b = false) (hs : (Builtin.Int.intBits a : Int) - n ≤ 4000) :
    TL C (k + 1) Mu [.int a, .int b, .int n] (fun vs => call (.ref 28) vs) (.tup [.int (a.fdiv b), .int (a.fmod b)]) := by
  refine TL.defP G (n := 5) (cd := 27) (names := ["a", "b", "n"]) (by decide) (fun pm vs hv => by obtain ⟨v, w, x, rfl⟩ := len3 hv; kernel_rfl) (by decide +kernel) rfl ?_
  intro prog A F h₀ hsc M H hA
  refine XS.iff (b := decide ((Builtin.Int.intBits a : Int) - n ≤ 4000)) H hA (TT.cmp H (EV.bin H (EV.meth0 H (by walk_at "ev") GetM.bitlen TL.bitlen) (by walk_at "ev") T2.sub) (EV.num H G (kd hsc (by decide +kernel)) (List.Mem.head _)) T2.lei) (fun _ => ?_) (fun q => by rw [decide_eq_true hs] at q; cases q)
  refine XS.ret H hA (EV.callB H (kd hsc (by decide +kernel)) (by walk_at "mem") (EVs.cons H ?_ (EVs.cons H ?_ EVs.nil)) (TL.divmod hb hp)) Ret.of
  · walk_at "ev"
  · walk_at "ev"
end
theorem dig_figs (n m : Nat) (x : Int) (h0 : 0 ≤ x) (h : x < 2 ^ (n * m)) : dig n (figs n m x) = x := by
  induction m generalizing x with
  | zero => simp at h; rw [figs, dig]; omega
  | succ m ih =>
    have hp : (0 : Int) < 2 ^ n := Int.pow_pos (by decide)
    rw [Nat.mul_add, Nat.mul_one, Int.pow_add] at h
    rw [figs, dig, ih _ (Int.ediv_nonneg h0 (Int.le_of_lt hp)) (Int.ediv_lt_of_lt_mul hp h)]
    exact Int.emod_add_mul_ediv x (2 ^ n)
theorem figs_mem (n m : Nat) (x : Int) : ∀ d ∈ figs n m x, 0 ≤ d ∧ d < 2 ^ n := by
  induction m generalizing x with
  | zero => intro d h; cases h
  | succ m ih =>
    have hp : (0 : Int) < 2 ^ n := Int.pow_pos (by decide)
    intro d h
    rcases List.mem_cons.mp h with rfl | h
    · exact ⟨Int.emod_nonneg _ (by omega), Int.emod_lt_of_pos _ hp⟩
    · exact ih _ d h
theorem i2dLen_ok {a : Int} {n : Nat} (ha : 0 ≤ a) (hn : 0 < n) : a < 2 ^ (n * i2dLen a n) := by
  have hbits : n * i2dLen a n ≥ Builtin.Int.intBits a := by
    unfold i2dLen
    have e1 := Nat.div_add_mod (Builtin.Int.intBits a + n - 1) n
    have e2 := Nat.mod_lt (Builtin.Int.intBits a + n - 1) hn
    omega
  have q := intBits_le_iff.mp hbits
  have q2 : ((a.natAbs : Nat) : Int) < ((2 ^ (n * i2dLen a n) : Nat) : Int) := by exact_mod_cast q
  rw [Int.natAbs_of_nonneg ha] at q2
  push_cast at q2
  exact q2
local macro_rules | `(tactic| walk_at "ev") => `(tactic| first
  | (refine' EV.tup (by assumption) ?e1 ?hn; (case e1 => walk_at "evs"); (case hn => exact Nat.le_of_ble_eq_true rfl))
  | (refine' EV.lst (by assumption) ?e1 ?hn; (case e1 => walk_at "evs"); (case hn => exact Nat.le_of_ble_eq_true rfl)))
section
variable {C : Base} {k : Nat} {Mu : Addr → Prop}
noncomputable abbrev dpR (n : Nat) (a b : Int) (hs : List Int) (i : Nat) : Rho := [("r", .int (ldR n b hs i)), ("q_digits", .own ((ldQs n b hs i).map .int)), ("a_digits", .list (hs.reverse.map .int)), ("n", .int n), ("a", .int a), ("b", .int b)]
theorem divmod_pos_spec (G : PG C) {a b : Int} (ha : 0 ≤ a) (hb : 0 < b) (hbb : Builtin.Int.intBits b ≤ 3900) (hl : Builtin.Int.intBits a ≤ 2 ^ 12 - 2 ^ 8) :
    TL C 15 Mu [.int a, .int b] (fun vs => call (.ref 56) vs) (.tup [.int (a / b), .int (a % b)]) := by
  refine TL.defP G (n := 9) (cd := 55) (names := ["a", "b"]) (by decide) (fun pm vs hv => by obtain ⟨v, w, rfl⟩ := len2' hv; kernel_rfl) (by decide +kernel) rfl ?_
  intro prog A F h₀ hsc M H hA
  generalize hn : Builtin.Int.intBits b = n at hbb
  have hn0 : 0 < n := by rw [← hn]; unfold Builtin.Int.intBits; rw [if_neg (by simp; omega)]; omega
  refine XS.asg (d := .int (n : Int)) H hA (hn ▸ EV.meth0 H (by walk_at "ev") GetM.bitlen TL.bitlen) (by walk_at "kd") (by walk_at "ne") ?_
  generalize hhs : (figs n (i2dLen a n) a).reverse = hs
  have hrev : hs.reverse = figs n (i2dLen a n) a := by rw [← hhs, List.reverse_reverse]
  refine XS.asg (d := .list (hs.reverse.map .int)) H hA (EV.callF H (kd hsc (by decide +kernel)) (G.mg ("_int2digits", 42) (by decide)) (G.fd (42, 7, 41) (by decide)).choose_spec (EVs.cons H ?_ (EVs.cons H ?_ EVs.nil)) (hrev ▸ int2digits_spec G ha hn0 (by omega) hl)) (by walk_at "kd") (by walk_at "ne") ?_
  · walk_at "ev"
  · walk_at "ev"
  have hd : ∀ d ∈ hs, 0 ≤ d ∧ d < 2 ^ n := fun d h => figs_mem n (i2dLen a n) a d (by rw [← hrev]; exact List.mem_reverse.mpr h)
  refine XS.asg (d := .int (ldR n b hs 0)) H hA (EV.int 0) (by walk_at "kd") (by walk_at "ne") ?_
  refine XS.own (Sub.refl M) (ds := (ldQs n b hs 0).map .int) hA (EVF.lst (ds := []) EVs.nil) rfl (by walk_at "kd") (by walk_at "ne") ?_
  intro F₂ S
  have H₂ := S.fok
  have hsc₂ : F₂.env.scope = sc (stmtAt 9) := by rw [S.env]; exact hsc
  refine XS.for H₂ hA (ds := hs.map .int) (ρs := dpR n a b hs) (ρ' := dpR n a b hs hs.length) (dr := .tup [.int (a / b), .int (a % b)]) ?src (fun p hp => ?sub) (fun i d hi => ?body) (fun p hp => by rw [List.length_map]; exact hp) (Ret.up S) ?rest
  case src =>
    have : (hs.reverse.map D.int).reverse = hs.map .int := by rw [← List.map_reverse, List.reverse_reverse]
    rw [← this]
    exact SrcE.rev H₂ (kd hsc₂ (by decide +kernel)) (by walk_at "ev")
  case sub =>
    revert p; exact memC (by (walk_at "mem")) (memC (by (walk_at "mem")) (memC (by (walk_at "mem")) (memC (by (walk_at "mem")) (memC (by (walk_at "mem")) (memC (by (walk_at "mem")) memN)))))
  case body =>
    have hlt : i < hs.length := by have := (List.getElem?_eq_some_iff.mp hi).1; simpa using this
    have hd' : d = .int hs[i] := by rw [List.getElem?_map, List.getElem?_eq_getElem hlt] at hi; exact (Option.some.inj hi).symm
    subst hd'
    have hg : hs.getD i 0 = hs[i] := by rw [List.getD_eq_getElem?_getD, List.getElem?_eq_getElem hlt]; rfl
    obtain ⟨r0, r1⟩ := ldR_lt n hb hs i
    refine ⟨("a_digit", .int hs[i]) :: dpR n a b hs i, fun F₃ L₃ => ?_, fun F₃ L₃ => ?_⟩
    · have hsc₃ : F₃.env.scope = sc (stmtAt 9) := by rw [L₃.env]; exact hsc₂
      exact Asg.name L₃.fok (kd hsc₃ (by decide +kernel)) (by walk_at "ne")
    · have H₃ := L₃.fok
      have hsc₃ : F₃.env.scope = sc (stmtAt 9) := by rw [L₃.env]; exact hsc₂
      have hbn : b < 2 ^ n := by
        have q := intBits_le_iff.mp (Nat.le_of_eq hn)
        have q2 : ((b.natAbs : Nat) : Int) < ((2 ^ n : Nat) : Int) := by exact_mod_cast q
        rw [Int.natAbs_of_nonneg (Int.le_of_lt hb)] at q2
        push_cast at q2; exact q2
      have hd0 := hd hs[i] (List.getElem_mem hlt)
      have hp : (0 : Int) < 2 ^ n := Int.pow_pos (by decide)
      have hv0 : 0 ≤ ldR n b hs i * 2 ^ n + hs[i] := by have := Int.mul_nonneg r0 (Int.le_of_lt hp); omega
      have hv1 : ldR n b hs i * 2 ^ n + hs[i] < 2 ^ (n + n) := by
        rw [Int.pow_add]
        have q1 : (ldR n b hs i + 1) * 2 ^ n ≤ 2 ^ n * 2 ^ n := Int.mul_le_mul_of_nonneg_right (by omega) (Int.le_of_lt hp)
        rw [Int.add_mul, Int.one_mul] at q1
        omega
      have hbits := bits_le hv0 hv1
      have hlog : b.natAbs.log2 < 9000 := by
        have : Builtin.Int.intBits b = b.natAbs.log2 + 1 := by unfold Builtin.Int.intBits; rw [if_neg (by simp; omega)]
        omega
      have hsh : (Builtin.Int.intBits (ldR n b hs i) : Int) + (n : Int) ≤ 2 ^ 27 := by
        have := bits_le r0 (show ldR n b hs i < 2 ^ n by omega)
        omega
      refine XS.asgTW (ds := [.int (ldQ n b hs i), .int (ldR n b hs (i + 1))]) (ρ₀ := [("a_digit", .int hs[i]), ("q_digits", .own ((ldQs n b hs i).map .int)), ("a_digits", .list (hs.reverse.map .int)), ("n", .int n), ("a", .int a), ("b", .int b)]) H₃ hA ?call (fun p hp => ?sub) (AsgL.cons (fun F₄ L₄ => Asg.name L₄.fok (by rw [show F₄.env.kindOf "q_digit" = F₃.env.kindOf "q_digit" by rw [L₄.env]]; exact kd hsc₃ (by decide +kernel)) (by walk_at "ne")) rfl (AsgL.cons (fun F₄ L₄ => Asg.name L₄.fok (by rw [show F₄.env.kindOf "r" = F₃.env.kindOf "r" by rw [L₄.env]]; exact kd hsc₃ (by decide +kernel)) (by walk_at "ne")) rfl AsgL.nil)) ?_
      case sub => revert p; exact memC (by (walk_at "mem")) (memC (by (walk_at "mem")) (memC (by (walk_at "mem")) (memC (by (walk_at "mem")) (memC (by (walk_at "mem")) (memC (by (walk_at "mem")) memN)))))
      case call =>
        have e := div2n1n_spec (C := C) (k := 13) (Mu := F₃.Mu) G (a := ldR n b hs i * 2 ^ n + hs[i]) (b := b) (n := (n : Int)) (by omega) (PyProof.noPylong_of_log2 hlog) (by omega)
        rw [Int.fdiv_eq_ediv_of_nonneg _ (Int.le_of_lt hb), Int.fmod_eq_emod_of_nonneg _ (Int.le_of_lt hb)] at e
        have e1 : (ldR n b hs i * 2 ^ n + hs[i]) / b = ldQ n b hs i := by unfold ldQ; rw [hg]
        have e2 : (ldR n b hs i * 2 ^ n + hs[i]) % b = ldR n b hs (i + 1) := by rw [ldR, hg]
        rw [e1, e2] at e
        refine EV.callF H₃ (kd hsc₃ (by decide +kernel)) (G.mg ("_div2n1n", 28) (by decide)) (G.fd (28, 5, 27) (by decide)).choose_spec (EVs.cons H₃ ?_ (EVs.cons H₃ ?_ (EVs.cons H₃ ?_ EVs.nil))) e
        · exact EV.toI (EV.bin H₃ (EV.bin H₃ (by walk_at "ev") (by walk_at "ev") (T2.shl (by omega) hsh)) (by walk_at "ev") T2.add) (by rw [Int.toNat_natCast])
        · walk_at "ev"
        · walk_at "ev"
      have e4 : (ldQs n b hs (i + 1)).map D.int = (ldQs n b hs i).map D.int ++ [.int (ldQ n b hs i)] := by unfold ldQs; rw [List.range_succ, List.map_append, List.map_append]; rfl
      refine XS.append (ds := (ldQs n b hs i).map .int) (d := .int (ldQ n b hs i)) (ρ' := [("r", .int (ldR n b hs (i + 1))), ("a_digits", .list (hs.reverse.map .int)), ("n", .int n), ("a", .int a), ("b", .int b)]) H₃ hA (by walk_at "mem") (by walk_at "ev") ?len (kd hsc₃ (by decide +kernel)) (fun p hp => ?own) ?_
      case len =>
        have : hs.length ≤ 2 ^ 12 := by
          rw [← hhs, List.length_reverse, figs_len]
          exact Nat.le_trans (i2dLen_le _ hn0) (by omega)
        simp [ldQs]; omega
      case own => revert p; exact memC (by exact ⟨by walk_at "mem", rfl⟩) (memC (by exact ⟨by walk_at "mem", rfl⟩) (memC (by exact ⟨by walk_at "mem", rfl⟩) (memC (by exact ⟨by walk_at "mem", rfl⟩) (memC (by exact ⟨by walk_at "mem", rfl⟩) memN))))
      refine XS.nil fun s' hs' => ?_
      show St C F₃ (dpR n a b hs (i + 1)) s'
      unfold dpR
      rw [e4]
      refine hs'.weaken fun p hp => ?_
      revert p; exact memC (by (walk_at "mem")) (memC (by (walk_at "mem")) (memC (by (walk_at "mem")) (memC (by (walk_at "mem")) (memC (by (walk_at "mem")) (memC (by (walk_at "mem")) memN)))))
  case rest =>
    have hlen : hs.length ≤ 2 ^ 12 := by
      rw [← hhs, List.length_reverse, figs_len]
      exact Nat.le_trans (i2dLen_le _ hn0) (by omega)
    refine XS.reverse H₂ (ds := (ldQs n b hs hs.length).map .int) (ρ' := [("r", .int (ldR n b hs hs.length)), ("n", .int n)]) (by walk_at "mem") (by simp [ldQs]; omega) (fun p hp => ?r1) ?_
    case r1 => revert p; exact memC (by exact ⟨by walk_at "mem", rfl⟩) (memC (by exact ⟨by walk_at "mem", rfl⟩) memN)
    rw [← List.map_reverse]
    refine XS.freeze S M.ownC (ρ₂ := [("q_digits", .list ((ldQs n b hs hs.length).reverse.map .int)), ("r", .int (ldR n b hs hs.length)), ("n", .int n)]) (List.Mem.head _) (fun p hp => ?r2) fun F₃ S₃ => ?_
    case r2 => revert p; exact memC (by first | exact .inl rfl | exact .inr ⟨by walk_at "mem", rfl⟩) (memC (by first | exact .inl rfl | exact .inr ⟨by walk_at "mem", rfl⟩) (memC (by first | exact .inl rfl | exact .inr ⟨by walk_at "mem", rfl⟩) memN))
    have H₃ := S₃.fok
    have hsc₃ : F₃.env.scope = sc (stmtAt 9) := by rw [S₃.env]; exact hsc
    have hq : ∀ d ∈ (ldQs n b hs hs.length).reverse, 0 ≤ d ∧ d < 2 ^ n := fun d hm => by
      obtain ⟨i, _, rfl⟩ := List.mem_map.mp (List.mem_reverse.mp hm)
      exact ldQ_lt n hb hs hd i
    refine XS.asg (d := .int (dig n (ldQs n b hs hs.length).reverse)) H₃ hA (EV.callF H₃ (kd hsc₃ (by decide +kernel)) (G.mg ("_digits2int", 49) (by decide)) (G.fd (49, 8, 48) (by decide)).choose_spec (EVs.cons H₃ ?_ (EVs.cons H₃ ?_ EVs.nil)) (digits2int_spec G (by simp [ldQs]; omega) (by omega) hq)) (by walk_at "kd") (by walk_at "ne") ?_
    · walk_at "ev"
    · walk_at "ev"
    obtain ⟨e1, e2⟩ := ld_end n hb hs
    rw [hrev, dig_figs n _ a ha (i2dLen_ok ha hn0)] at e1 e2
    rw [e1, e2]
    exact XS.ret H₃ hA (by walk_at "ev") (Ret.up S₃)
end
section
variable {C : Base} {k : Nat} {Mu : Addr → Prop}
theorem TL.mono {k' : Nat} {ds : List D} {f : List Value → Sem Value} {d : D} (h : TL C k Mu ds f d) (hk : k ≤ k') : TL C k' Mu ds f d := by
  refine TL.mk ?_
  intro prog A s vs Q E hA ho r hQ
  exact h.run prog A s vs Q E (hA.mono hk) ho r hQ
theorem idm_pos (G : PG C) {a b : Int} (ha : 0 ≤ a) (hb : 0 < b) (hbb : Builtin.Int.intBits b ≤ 3900) (hl : Builtin.Int.intBits a ≤ 2 ^ 12 - 2 ^ 8) :
    TL C 16 Mu [.int a, .int b] (fun vs => call (.ref 63) vs) (.tup [.int (a / b), .int (a % b)]) := by
  refine TL.defP G (n := 10) (cd := 62) (names := ["a", "b"]) (by decide) (fun pm vs hv => by obtain ⟨v, w, rfl⟩ := len2' hv; kernel_rfl) (by decide +kernel) rfl ?_
  intro prog A F h₀ hsc M H hA
  refine XS.iff (b := (b == 0)) H hA (by walk_at "tt") (fun q => by simp at q; omega) (fun _ => ?_)
  refine XS.iff (b := decide (b < 0)) H hA (by walk_at "tt") (fun q => by simp at q; omega) (fun _ => ?_)
  refine XS.iff (b := decide (a < 0)) H hA (by walk_at "tt") (fun q => by simp at q; omega) (fun _ => ?_)
  refine XS.ret H hA (EV.callF H (kd hsc (by decide +kernel)) (G.mg ("_divmod_pos", 56) (by decide)) (G.fd (56, 9, 55) (by decide)).choose_spec (EVs.cons H ?_ (EVs.cons H ?_ EVs.nil)) (divmod_pos_spec G ha hb hbb hl)) Ret.of
  · walk_at "ev"
  · walk_at "ev"
theorem bitNot_eq (x : Int) : Builtin.bitNot x = -x - 1 := by unfold Builtin.bitNot; omega
theorem neg_div {a b : Int} (hb : 0 < b) : Builtin.bitNot (Builtin.bitNot a / b) = a / b ∧ b + Builtin.bitNot (Builtin.bitNot a % b) = a % b := by
  rw [bitNot_eq, bitNot_eq, bitNot_eq]
  have e := Int.mul_ediv_add_emod (-a - 1) b
  have e1 := Int.emod_nonneg (-a - 1) (show b ≠ 0 by omega)
  have e2 := Int.emod_lt_of_pos (-a - 1) hb
  have := (Int.ediv_emod_unique hb (a := a) (q := -((-a - 1) / b) - 1) (r := b + (-((-a - 1) % b) - 1))).mpr ⟨by
    rw [Int.mul_sub, Int.mul_neg, Int.mul_one]; omega, by omega, by omega⟩
  exact ⟨this.1.symm, this.2.symm⟩
theorem idm_neg (G : PG C) {a b : Int} (hb : 0 < b) (hbb : Builtin.Int.intBits b ≤ 3900) (hl : Builtin.Int.intBits a ≤ 2 ^ 12 - 2 ^ 8 - 1) :
    TL C 17 Mu [.int a, .int b] (fun vs => call (.ref 63) vs) (.tup [.int (a / b), .int (a % b)]) := by
  by_cases ha : 0 ≤ a
  · exact (idm_pos G ha hb hbb (by omega)).mono (by omega)
  refine TL.defP G (n := 10) (cd := 62) (names := ["a", "b"]) (by decide) (fun pm vs hv => by obtain ⟨v, w, rfl⟩ := len2' hv; kernel_rfl) (by decide +kernel) rfl ?_
  intro prog A F h₀ hsc M H hA
  refine XS.iff (b := (b == 0)) H hA (by walk_at "tt") (fun q => by simp at q; omega) (fun _ => ?_)
  refine XS.iff (b := decide (b < 0)) H hA (by walk_at "tt") (fun q => by simp at q; omega) (fun _ => ?_)
  refine XS.iff (b := decide (a < 0)) H hA (by walk_at "tt") (fun q => ?_) (fun q => by simp at q; omega)
  have h0 : 0 ≤ Builtin.bitNot a := by rw [bitNot_eq]; omega
  have h1 : Builtin.Int.intBits (Builtin.bitNot a) ≤ 2 ^ 12 - 2 ^ 8 := by
    rw [bitNot_eq]
    refine intBits_le_iff.mpr ?_
    have := intBits_le_iff.mp hl
    omega
  refine XS.asgT (ds := [.int (Builtin.bitNot a / b), .int (Builtin.bitNot a % b)]) H hA (EV.callF H (kd hsc (by decide +kernel)) (G.mg ("int_divmod", 63) (by decide)) (G.fd (63, 10, 62) (by decide)).choose_spec (EVs.cons H ?_ (EVs.cons H ?_ EVs.nil)) (idm_pos G h0 hb hbb h1)) (AsgL.cons (fun F₄ L₄ => Asg.name L₄.fok (by rw [show F₄.env.kindOf "q" = F.env.kindOf "q" by rw [L₄.env]]; exact kd hsc (by decide +kernel)) (by walk_at "ne")) rfl (AsgL.cons (fun F₄ L₄ => Asg.name L₄.fok (by rw [show F₄.env.kindOf "r" = F.env.kindOf "r" by rw [L₄.env]]; exact kd hsc (by decide +kernel)) (by walk_at "ne")) rfl AsgL.nil)) ?_
  · walk_at "ev"
  · walk_at "ev"
  obtain ⟨e1, e2⟩ := neg_div (a := a) hb
  refine XS.ret H hA ?_ Ret.of
  rw [← e1, ← e2]
  walk_at "ev"
theorem neg_fdiv {a b : Int} (hb : b < 0) : -a / -b = a.fdiv b ∧ -(-a % -b) = a.fmod b := by
  rw [← Int.fdiv_eq_ediv_of_nonneg _ (by omega), ← Int.fmod_eq_emod_of_nonneg _ (by omega), Int.neg_fdiv_neg]
  refine ⟨rfl, ?_⟩
  rw [Int.neg_fmod_neg]; omega
theorem int_divmod_spec (G : PG C) {a b : Int} (hb : b ≠ 0) (hbb : Builtin.Int.intBits b ≤ 3900) (hl : Builtin.Int.intBits a ≤ 2 ^ 12 - 2 ^ 8 - 1) :
    TL C 18 Mu [.int a, .int b] (fun vs => call (.ref 63) vs) (.tup [.int (a.fdiv b), .int (a.fmod b)]) := by
  by_cases hb0 : 0 < b
  · rw [Int.fdiv_eq_ediv_of_nonneg _ (by omega), Int.fmod_eq_emod_of_nonneg _ (by omega)]
    exact (idm_neg G hb0 hbb hl).mono (by omega)
  refine TL.defP G (n := 10) (cd := 62) (names := ["a", "b"]) (by decide) (fun pm vs hv => by obtain ⟨v, w, rfl⟩ := len2' hv; kernel_rfl) (by decide +kernel) rfl ?_
  intro prog A F h₀ hsc M H hA
  refine XS.iff (b := (b == 0)) H hA (by walk_at "tt") (fun q => by simp at q; omega) (fun _ => ?_)
  refine XS.iff (b := decide (b < 0)) H hA (by walk_at "tt") (fun _ => ?_) (fun q => by simp at q; omega)
  refine XS.asgT (ds := [.int (-a / -b), .int (-a % -b)]) H hA (EV.callF H (kd hsc (by decide +kernel)) (G.mg ("int_divmod", 63) (by decide)) (G.fd (63, 10, 62) (by decide)).choose_spec (EVs.cons H ?_ (EVs.cons H ?_ EVs.nil)) (idm_neg G (show 0 < -b by omega) (intBits_neg_le hbb) (intBits_neg_le hl))) (AsgL.cons (fun F₄ L₄ => Asg.name L₄.fok (by rw [show F₄.env.kindOf "q" = F.env.kindOf "q" by rw [L₄.env]]; exact kd hsc (by decide +kernel)) (by walk_at "ne")) rfl (AsgL.cons (fun F₄ L₄ => Asg.name L₄.fok (by rw [show F₄.env.kindOf "r" = F.env.kindOf "r" by rw [L₄.env]]; exact kd hsc (by decide +kernel)) (by walk_at "ne")) rfl AsgL.nil)) ?_
  · walk_at "ev"
  · walk_at "ev"
  obtain ⟨e1, e2⟩ := neg_fdiv (a := a) (show b < 0 by omega)
  refine XS.ret H hA ?_ Ret.of
  rw [← e1, ← e2]
  walk_at "ev"
end
noncomputable def splitL (x y : List Nat) : List (List Nat) := (Txt.split (mkS x) (mkS y)).map fun p => p.cps.toList
theorem mkS_toList (p : Str) : mkS p.cps.toList = p := by cases p; rfl
theorem splitL_eq (x y : List Nat) : Txt.split (mkS x) (mkS y) = (splitL x y).map mkS := by
  unfold splitL
  rw [List.map_map]
  exact (List.map_id _).symm.trans (List.map_congr_left fun p _ => (mkS_toList p).symm)
theorem strsRep {g : Vis} : ∀ {l : List (Str × Tok)} {ds : List (List Nat)}, l.map (·.1) = ds.map mkS → RepL g (strValues l) (ds.map .str)
  | [], [], _ => .nil
  | [], _ :: _, h => by simp at h
  | _ :: _, [], h => by simp at h
  | (x, t) :: l, d :: ds, h => by
    rw [List.map_cons, List.map_cons, List.cons.injEq] at h
    obtain ⟨h1, h2⟩ := h
    have h1 : x = mkS d := h1
    subst h1
    exact .cons (.str d t) (strsRep h2)
section
variable {prog : Program} {w : World} {A : Around} {E : Value → Shared → Prop} {s : Shared}
theorem call_split {x y : Str} {t u : Tok} {Q : Value → Shared → Prop} (hy : (y.length == 0) = false) (hx : x.length + 1 ≤ sizeLine)
    (hq : ∀ (l : List (Str × Tok)) (k : Nat), l.map (·.1) = Txt.split x y → Q (.ref s.heap.objs.size) { s with heap := s.heap.push (listO (strValues l) 0), toks := k }) :
    wpAny (model prog w) A (call (.builtin "str.split") [.str x t, .str y u]) Q E s := by
  have n1 : (Builtin.Str.partsBetween x (Builtin.Str.occurrences x y 0 x.length (x.length + 1)) y.length).length ≤ sizeLine := by
    rw [len_partsBetween]
    have := StrLaws.occ_length_le_len x y 0 x.length (x.length + 1)
    have q := (StrLaws.occ_tight x y (by simp at hy; omega))
    obtain ⟨f, hG, _⟩ := q
    have : ∀ (a : Nat) (cuts : List Nat) (f : Nat), StrLaws.ChainG x y x.length a cuts f → a + cuts.length ≤ max a x.length := by
      intro a cuts
      induction cuts generalizing a with
      | nil => intro f h; simp; omega
      | cons c r ih =>
        intro f h
        obtain ⟨h1, h2, _, h4⟩ := h
        have := ih _ f h4
        have h5 := h2.1
        have : 1 ≤ y.length := by simp at hy; omega
        simp only [List.length_cons]
        omega
    have := this 0 _ f hG
    omega
  cases h1 : (decide (x.length < y.length) || decide (Builtin.Str.strKind x < Builtin.Str.strKind y))
  · cases hf : (Builtin.Str.occurrences x y 0 x.length (x.length + 1)).isEmpty
    · refine call_meets F.slot_str_split (typeIs_str _ _ _) F.entry_str_split (F.args_str_split_2 _ _) (meets_str_split_sep x y t u h1 hy hf (by omega) n1) ?_
      show wants Q E _ { s with toks := _, heap := s.heap.push { cls := .type "list", data := .seq (strsFrom s.toks (Builtin.Str.partsBetween x (Builtin.Str.occurrences x y 0 x.length (x.length + 1)) y.length)).toArray } }
      rw [strsFrom_eq]
      refine hq (numbered s.toks _) _ ((numbered_texts _ _).trans ?_)
      unfold Txt.split
      rw [h1, hf]; rfl
    · refine call_meets F.slot_str_split (typeIs_str _ _ _) F.entry_str_split (F.args_str_split_2 _ _) (meets_str_split_not_found x y t u h1 hy hf) (hq [(x, t)] s.toks ?_)
      unfold Txt.split
      rw [h1, hf]; rfl
  · refine call_meets F.slot_str_split (typeIs_str _ _ _) F.entry_str_split (F.args_str_split_2 _ _) (meets_str_split_cannot_occur x y t u h1) (hq [(x, t)] s.toks ?_)
    unfold Txt.split
    rw [h1]; rfl
end
section
variable {C : Base} {k : Nat} {F : Fn} {ρ : Rho}
theorem EVF.split (H : FOK F) {o e : Expr} {apos pos : Pos} {pl : Sem Bool} {x y : List Nat} (h0 : EV C k F ρ o (.str x)) (ha : EVs C k F ρ [e] [.str y]) (hy : y ≠ []) (hx : x.length < 2 ^ 20)
    (he : eval (.Call (.Attribute o "split" apos) [e] [] pos) F.env = (do
      let ov ← eval o F.env
      standAt apos.atName
      let (f, first) ← holding [ov] (getMethod ov "split" pl)
      callWith pos f first (backTo pos (starEach [e] F.env)) []) := by rfl)
    (he2 : starEach [e] F.env = (false, eval e F.env) :: starEach [] F.env := by rfl) (hp : (backTo pos (starEach [] F.env)).any (·.1) = false := by rfl) :
    EVF C k F ρ (.Call (.Attribute o "split" apos) [e] [] pos) ((splitL x y).map .str) := by
  refine EVF.mk ?_
  intro prog A s Q E hA hs hQ
  refine MethodCall_ (pl := pl) (h0.run _ _ _ _ _ hA hs fun v1 s1 y1 r1 => GetM.split _ _ _ _ _ _ _ _ _ r1 ?_) he
  have hs1 := hs.step y1 H.nt
  refine callWith_method1 ?_ he2 hp
  refine ha.run _ _ _ _ _ _ hA hs1 fun vs s2 y2 r2 => ?_
  have hs2 := hs1.step y2 H.nt
  obtain ⟨t, rfl⟩ := r1.str_i
  obtain ⟨v, rfl, r3⟩ := r2.one
  obtain ⟨u, rfl⟩ := r3.str_i
  refine call_split (by rw [mkS_len]; cases y <;> simp at hy ⊢) (by rw [mkS_len, sizeLine_eq]; omega) fun l k hl => ?_
  rw [splitL_eq] at hl
  exact hQ _ (strValues l) 0 _ (y1.trans (y2.trans Step.push)) ((y1.trans y2).none_of hs.ok.tabs (fresh_none _)) (Heap.get?_push_size _ rfl) (strsRep hl)
noncomputable def minI : List Int → Int
  | [] => 0
  | [a] => a
  | a :: r => min a (minI r)
theorem minI_mem : ∀ {l : List Int}, l ≠ [] → minI l ∈ l
  | [a], _ => List.mem_singleton.mpr rfl
  | a :: b :: r, _ => by
    have := minI_mem (l := b :: r) (by simp)
    show min a (minI (b :: r)) ∈ _
    rcases Int.le_total a (minI (b :: r)) with h | h
    · rw [Int.min_eq_left h]; exact List.mem_cons_self ..
    · rw [Int.min_eq_right h]; exact List.mem_cons_of_mem _ this
theorem minI_le : ∀ {l : List Int} {a : Int}, a ∈ l → minI l ≤ a
  | [b], a, h => by rw [List.mem_singleton.mp h]; exact Int.le_refl _
  | b :: c :: r, a, h => by
    show min b (minI (c :: r)) ≤ a
    rcases List.mem_cons.mp h with rfl | h
    · exact Int.min_le_left ..
    · exact Int.le_trans (Int.min_le_right ..) (minI_le h)
theorem preSum_take (l : List Int) : ∀ n, n ≤ l.length → preSum (fun i => l.getD i 0) n = (l.take n).sum
  | 0, _ => rfl
  | n + 1, h => by
    rw [preSum, preSum_take l n (by omega), List.take_add_one, List.sum_append]
    congr 1
    rw [List.getD_eq_getElem?_getD]
    cases q : l[n]? with
    | none => rw [List.getElem?_eq_none_iff] at q; omega
    | some a => simp
theorem RepL.intAt {g : Vis} {vs : List Value} {l : List Int} (r : RepL g vs (l.map .int)) {i : Nat} {v : Value} (h : vs.toArray[i]? = some v) : ∃ t, v = .int (l.getD i 0) t := by
  rw [List.getElem?_toArray] at h
  have hl := r.length
  have : i < l.length := by have := (List.getElem?_eq_some_iff.mp h).1; simp at hl; omega
  obtain ⟨v', e, q⟩ := r.get (i := i) (d := .int l[i]) (by simp [this])
  rw [h] at e; cases e
  obtain ⟨t, rfl⟩ := q.int_i
  exact ⟨t, by rw [List.getD_eq_getElem?_getD, List.getElem?_eq_getElem this]; rfl⟩
variable {Mu : Addr → Prop}
theorem TL.sum {l : List Int} : TL C k Mu [.list (l.map .int)] (fun vs => call (.builtin "sum") vs) (.int l.sum) := by
  refine TL.mk ?_
  intro prog A s vs Q E hA ho r hQ
  obtain ⟨v, rfl, r1⟩ := r.one
  obtain ⟨a, n, us, rfl, x, q⟩ := r1.list_i
  have hne : a ≠ s.heap.objs.size := Nat.ne_of_lt (Heap.lt_size x.2)
  refine call_sum_walkG (wpAny_pyIter_list (isList_of x.2) ⟨_, _, _, _, _, _, fun i => l.getD i 0, rfl, Walks.list (A := A.in1) hA.1 _ a hne us.toArray, ⟨⟨_, Heap.get?_push_size _ rfl, rfl, rfl⟩, (isList_of x.2).push _⟩, ?_, fun i v h => q.intAt h, fun h' tk t' hk => ?_⟩)
  · intro b hb
    rw [Heap.size_push]
    rcases List.mem_cons.mp hb with rfl | hb
    · exact Nat.lt_succ_self _
    · rw [List.mem_singleton.mp hb]; exact Nat.lt_succ_of_lt (Heap.lt_size x.2)
  · have e : preSum (fun i => l.getD i 0) us.toArray.size = l.sum := by
      have hl := q.length
      simp at hl
      rw [List.size_toArray, hl, preSum_take l _ (Nat.le_refl _), List.take_length]
    rw [e]
    refine hQ _ _ (Step.of fun b o e => hk b o (fun hb => ?_) (Heap.get?_push_of_some _ e)) (.int _ _)
    rw [List.mem_singleton.mp hb] at e
    exact absurd (Heap.lt_size e) (Nat.lt_irrefl _)
theorem TL.min {l : List Int} (hl : l ≠ []) : TL C k Mu [.list (l.map .int)] (fun vs => call (.builtin "min") vs) (.int (minI l)) := by
  refine TL.mk ?_
  intro prog A s vs Q E hA ho r hQ
  obtain ⟨v, rfl, r1⟩ := r.one
  obtain ⟨a, n, us, rfl, x, q⟩ := r1.list_i
  have hlen : us.length = l.length := by simpa using q.length
  have hpos : 0 < l.length := List.length_pos_iff.mpr hl
  have hne : a ≠ s.heap.objs.size := Nat.ne_of_lt (Heap.lt_size x.2)
  refine call_min_walk (wpAny_pyIter_list (isList_of x.2) ⟨_, _, _, _, _, _, _, rfl, Walks.list (A := A.in1) hA.1 _ a hne us.toArray, ⟨⟨_, Heap.get?_push_size _ rfl, rfl, rfl⟩, (isList_of x.2).push _⟩, ?_, by rw [List.size_toArray]; omega, CmpOf.ints_lt (fun i => l.getD i 0) (fun i v h => q.intAt h), fun v h' tk hv hk => ?_⟩)
  · intro b hb
    rw [Heap.size_push]
    rcases List.mem_cons.mp hb with rfl | hb
    · exact Nat.lt_succ_self _
    · rw [List.mem_singleton.mp hb]; exact Nat.lt_succ_of_lt (Heap.lt_size x.2)
  · obtain ⟨t, rfl⟩ := q.intAt hv
    obtain ⟨h1, h2⟩ := argBest_lt (fun i => l.getD i 0) (us.toArray.size - 1)
    rw [List.size_toArray] at h1 h2 hv
    have e : l.getD (argBest (fun i j => decide (l.getD i 0 < l.getD j 0)) (us.length - 1)) 0 = minI l := by
      refine Int.le_antisymm ?_ ?_
      · obtain ⟨j, hj, e⟩ := mem_getD (minI_mem hl)
        rw [← e]; exact h2 j (by omega)
      · exact minI_le (getD_mem (by omega))
    rw [List.size_toArray, e]
    refine hQ _ _ (Step.of fun b o e => hk b o (fun hb => ?_) (Heap.get?_push_of_some _ e)) (.int _ _)
    rw [List.mem_singleton.mp hb] at e
    exact absurd (Heap.lt_size e) (Nat.lt_irrefl _)
theorem strsAre_rep {g : Vis} : ∀ {vs : List Value} {ds : List (List Nat)}, RepL g vs (ds.map .str) → StrsAre vs (ds.map mkS)
  | vs, [], r => by rw [RepL.nil_i r]; first | trivial | constructor
  | vs, d :: ds, r => by
    obtain ⟨v, ws, rfl, a, b⟩ := RepL.cons_i r
    obtain ⟨t, rfl⟩ := a.str_i
    exact .cons _ _ (strsAre_rep b)
theorem TL.join {x : List Nat} {ds : List (List Nat)} (h : (ds.map List.length).sum + ds.length * x.length ≤ 16777216) : TL C k Mu [.str x, .list (ds.map .str)] (fun vs => call (.builtin "str.join") vs) (.str (Txt.join (mkS x) (ds.map mkS)).cps.toList) := by
  refine TL.mk ?_
  intro prog A s vs Q E hA ho r hQ
  obtain ⟨v, u, rfl, r1, r2⟩ := r.two
  obtain ⟨t, rfl⟩ := r1.str_i
  obtain ⟨a, n, us, rfl, y, q⟩ := r2.list_i
  refine join_list (isList_of y.2) (strsAre_rep (g := vis Mu s.heap) (by simpa using q)) ?_ fun t' k => ?_
  · rw [List.map_map, List.length_map, mkS_len]
    exact h
  · have := hQ _ { s with toks := k } Step.tok (.str (Txt.join (mkS x) (ds.map mkS)).cps.toList t')
    rw [mkS_toList] at this
    exact this
theorem T2.mulb {a : Int} {b : Bool} : T2 C k Mu (.int a) (.bool b) (binaryOp .Mult) (.int (a * if b then 1 else 0)) := by
  refine T2.mk ?_
  intro prog A s v1 v2 Q E hA ho h1 h2 hQ; obtain ⟨t1, rfl⟩ := h1.int_i; obtain rfl := h2.bool_i; exact IntBool.mul_int_bool (hQ _ _ Step.tok (.int _ _))
end
noncomputable abbrev dots : List Nat := [46, 46, 46]
noncomputable def emLoop (got : List Nat) (en : Nat) : Nat → List (List Nat) → Bool
  | _, [] => true
  | st, w :: ws => if findIn got w st en < 0 then false else emLoop got en ((findIn got w st en).toNat + w.length) ws
noncomputable def emAt (got : List Nat) (en st : Nat) (ws : List (List Nat)) : Nat → Nat
  | 0 => st
  | i + 1 => (findIn got (ws.getD i []) (emAt got en st ws i) en).toNat + (ws.getD i []).length
noncomputable def em3 (got : List Nat) (ws : List (List Nat)) (st en : Nat) : Bool := if st > en then false else emLoop got en st ws
noncomputable def em2 (got : List Nat) (ws : List (List Nat)) (st : Nat) : Bool :=
  if (ws.getLastD []).isEmpty then em3 got ws st got.length else if Txt.endswith (mkS got) (mkS (ws.getLastD [])) then em3 got ws.dropLast st (got.length - (ws.getLastD []).length) else false
noncomputable def em1 (got : List Nat) (ws : List (List Nat)) : Bool :=
  if (ws.headD []).isEmpty then em2 got ws 0 else if Txt.startswith (mkS got) (mkS (ws.headD [])) then em2 got ws.tail (ws.headD []).length else false
noncomputable def em (want got : List Nat) : Bool := if Txt.contains (mkS want) (mkS dots) then em1 got (splitL want dots) else want == got
theorem split_two {x : List Nat} (h : Txt.contains (mkS x) (mkS dots) = true) : 2 ≤ (splitL x dots).length := by
  have h' := (StrLaws.found_iff (mkS x) (mkS dots)).mp h
  obtain ⟨i, hi⟩ := h'
  obtain ⟨f, hG, hn⟩ := StrLaws.occ_tight (mkS x) (mkS dots) (by decide)
  unfold splitL
  rw [List.length_map]
  unfold Txt.split
  have k1 : ∀ y : Str, 1 ≤ Builtin.Str.strKind y := fun y => by
    unfold Builtin.Str.strKind
    split
    · exact Nat.le_refl _
    · split <;> decide
  have k2 : Builtin.Str.strKind (mkS dots) = 1 := by simp [Builtin.Str.strKind]
  have e1 : (decide ((mkS x).length < (mkS dots).length) || decide (Builtin.Str.strKind (mkS x) < Builtin.Str.strKind (mkS dots))) = false := by
    have a := hi.1
    have b := k1 (mkS x)
    rw [k2, decide_eq_false (by omega), decide_eq_false (by omega)]; rfl
  rw [e1]
  cases hc : Builtin.Str.occurrences (mkS x) (mkS dots) 0 (mkS x).length ((mkS x).length + 1) with
  | nil =>
    rw [hc] at hG
    have : f = 0 := hG
    subst this
    exact absurd hi (hn i (Nat.zero_le _))
  | cons c r =>
    show 2 ≤ (Builtin.Str.partsBetween _ (c :: r) _).length
    rw [len_partsBetween]
    simp
theorem drop_getD {α : Type} {l : List α} {i : Nat} {a d : α} (h : l[i]? = some a) : l.drop i = a :: l.drop (i + 1) ∧ l.getD i d = a := by
  obtain ⟨h1, h2⟩ := List.getElem?_eq_some_iff.mp h
  exact ⟨by rw [List.drop_eq_getElem_cons h1, h2], by rw [List.getD_eq_getElem?_getD, h]; rfl⟩
theorem em_turn {got : List Nat} {en st : Nat} {ws : List (List Nat)} {i : Nat} {w : List Nat} (hw : ws[i]? = some w) (h : emLoop got en (emAt got en st ws i) (ws.drop i) = emLoop got en st ws) :
    (findIn got w (emAt got en st ws i) en < 0 → emLoop got en st ws = false) ∧
    (¬ findIn got w (emAt got en st ws i) en < 0 → emLoop got en (emAt got en st ws (i + 1)) (ws.drop (i + 1)) = emLoop got en st ws) := by
  obtain ⟨e1, e2⟩ := drop_getD (d := []) hw
  rw [e1, emLoop] at h
  refine ⟨fun q => ?_, fun q => ?_⟩
  · rw [if_pos q] at h; exact h.symm
  · rw [if_neg q] at h
    rw [emAt, e2]; exact h
theorem emAt_succ {got : List Nat} {en st : Nat} {ws : List (List Nat)} {i : Nat} {w : List Nat} (hw : ws[i]? = some w) (hq : ¬ findIn got w (emAt got en st ws i) en < 0) : ((emAt got en st ws (i + 1) : Nat) : Int) = findIn got w (emAt got en st ws i) en + (w.length : Int) := by
  obtain ⟨_, e2⟩ := drop_getD (d := []) hw
  rw [emAt, e2, Int.natCast_add, Int.toNat_of_nonneg (by omega)]
theorem strSub_len (x : Str) (a b : Nat) : (Builtin.Str.strSub x a b).length ≤ x.length := by
  unfold Builtin.Str.strSub Str.length
  simp [Array.size_extract]
  omega
theorem split_size (x : List Nat) : (splitL x dots).length ≤ x.length + 2 ∧ ∀ w ∈ splitL x dots, w.length ≤ x.length := by
  unfold splitL Txt.split
  have one : ∀ w ∈ [(mkS x)].map (fun p : Str => p.cps.toList), w.length ≤ x.length := fun w hw => by
    rw [List.map_singleton] at hw
    rw [List.mem_singleton.mp hw]; exact Nat.le_refl _
  split
  · exact ⟨by simp, one⟩
  · split
    · exact ⟨by simp, one⟩
    · refine ⟨?_, fun w hw => ?_⟩
      · rw [List.length_map, len_partsBetween]
        have := StrLaws.occ_length_le (mkS x) (mkS dots) 0 (mkS x).length ((mkS x).length + 1)
        rw [mkS_len] at this ⊢
        omega
      · rw [StrLaws.partsBetween_eq] at hw
        obtain ⟨p, hp, rfl⟩ := List.mem_map.mp hw
        have : ∀ (cuts : List Nat) (a : Nat), ∀ p ∈ StrLaws.partsFrom (mkS x) (mkS dots).length a cuts, p.length ≤ (mkS x).length := by
          intro cuts
          induction cuts with
          | nil => intro a p hp; rw [List.mem_singleton.mp hp]; exact strSub_len _ _ _
          | cons c r ih =>
            intro a p hp
            rcases List.mem_cons.mp hp with rfl | hp
            · exact strSub_len _ _ _
            · exact ih _ p hp
        have := this _ 0 p hp
        rw [mkS_len] at this
        exact this
theorem EV.dots {C : Base} {k : Nat} {F : Fn} {ρ : Rho} (H : FOK F) (G : PG C) {pos : Pos} (hx : F.env.kindOf "ELLIPSIS_MARKER" = some .globalImplicit) : EV C k F ρ (.Name "ELLIPSIS_MARKER" pos) (.str [46, 46, 46]) := by
  obtain ⟨t, hn⟩ := G.dots
  exact EV.global H hx hn (fun g => .str _ _)
theorem sub_nil {ρ : Rho} : ∀ p ∈ ([] : Rho), p ∈ ρ := fun _ h => nomatch h
theorem sub_cons {ρ r : Rho} {q : Str × D} (h : q ∈ ρ) (t : ∀ p ∈ r, p ∈ ρ) : ∀ p ∈ q :: r, p ∈ ρ := fun p hp => (List.mem_cons.mp hp).elim (fun e => e ▸ h) (t p)
theorem sub_ne {ρ ρ₀ : Rho} {x : Str} (h1 : ∀ p ∈ ρ₀, p ∈ ρ) (h2 : ρ₀.all (fun p => p.1 != x) = true) : ∀ p ∈ ρ₀, p ∈ ρ ∧ p.1 ≠ x := fun p hp => ⟨h1 p hp, ne_of_all h2 p hp⟩
theorem sub_own {ρ ρ₀ : Rho} (h1 : ∀ p ∈ ρ₀, p ∈ ρ) (h2 : ρ₀.all (fun p => !p.2.isOwn) = true) : ∀ p ∈ ρ₀, p ∈ ρ ∧ p.2.isOwn = false := fun p hp => ⟨h1 p hp, by have := List.all_eq_true.mp h2 p hp; simpa using this⟩
theorem sub_frz {ρ ρ₀ : Rho} {q : Str × D} (h1 : ∀ p ∈ ρ₀, p ∈ ρ) (h2 : ρ₀.all (fun p => !p.2.isOwn) = true) : ∀ p ∈ q :: ρ₀, p = q ∨ p ∈ ρ ∧ p.2.isOwn = false := fun p hp => (List.mem_cons.mp hp).imp id fun hp => sub_own h1 h2 p hp
theorem TT.toB {C : Base} {k : Nat} {F : Fn} {ρ : Rho} {e : Expr} {a b : Bool} (h : TT C k F ρ e a) (q : a = b) : TT C k F ρ e b := q ▸ h
theorem swA {S : Scope} {env : Env} (h : env.scope = S) {ts : List Expr} {e : Expr} {line : Nat} {r : Bool} (hP : ∀ L g c q f cd fr b, swapsWithSole ts e line { scope := S, locals := L, globals := g, cells := c, qual := q, func := f, code := cd, frame := fr, builtins := b } = pure r) : swapsWithSole ts e line env = pure r :=
  envAt (P := fun env => swapsWithSole ts e line env = pure r) h hP
theorem swB {S : Scope} {env : Env} (h : env.scope = S) {ts : List Expr} {e : Expr} {r : Option (List Str)} (hP : ∀ L g c q f cd fr b, swappedStores ts e { scope := S, locals := L, globals := g, cells := c, qual := q, func := f, code := cd, frame := fr, builtins := b } = pure r) : swappedStores ts e env = pure r :=
  envAt (P := fun env => swappedStores ts e env = pure r) h hP
theorem swC {S : Scope} {env : Env} (h : env.scope = S) {e : Expr} {t : Option Expr} {line : Nat} {r : Bool} (hP : ∀ L g c q f cd fr b, swapsWith e t line { scope := S, locals := L, globals := g, cells := c, qual := q, func := f, code := cd, frame := fr, builtins := b } = pure r) : swapsWith e t line env = pure r :=
  envAt (P := fun env => swapsWith e t line env = pure r) h hP
theorem sub_notin {ρ : Rho} {names : List Str} (h : ρ.all (fun p => !names.contains p.1) = true) : ∀ p ∈ ρ, p.1 ∉ names := fun p hp => by
  have := List.all_eq_true.mp h p hp
  simpa using this
local macro_rules | `(tactic| walk_at "sub") => `(tactic| first | exact sub_nil | (refine sub_cons ?hd ?tl; (case hd => walk_at "mem"); (case tl => walk_at "sub")))
local macro_rules | `(tactic| walk_at "subne") => `(tactic| exact sub_ne (by walk_at "sub") (by kernel_rfl))
local macro_rules | `(tactic| walk_at "subown") => `(tactic| exact sub_own (by walk_at "sub") (by rfl))
local macro_rules | `(tactic| walk_at "frz") => `(tactic| exact sub_frz (by walk_at "sub") (by rfl))
local macro_rules | `(tactic| walk_at "ev") => `(tactic| (refine' EV.dots (by assumption) (by assumption) ?kd; (case kd => walk_at "kd")))
section
variable {C : Base} {k : Nat} {Mu : Addr → Prop}
theorem endsw_len {x y : List Nat} (h : Txt.endswith (mkS x) (mkS y) = true) : y.length ≤ x.length := by
  unfold Txt.endswith at h
  rw [Bool.and_eq_true, decide_eq_true_eq, mkS_len, mkS_len] at h
  omega
theorem own_all (l : List (List Nat)) : (l.map D.str).all D.flat = true := by simp [D.flat]
theorem map_get {l : List (List Nat)} {i : Nat} {d : D} (h : (l.map D.str)[i]? = some d) : ∃ w, l[i]? = some w ∧ d = .str w := by
  rw [List.getElem?_map] at h
  cases q : l[i]? with
  | none => rw [q] at h; cases h
  | some w => rw [q] at h; cases h; exact ⟨w, rfl, rfl⟩
theorem str_truth {w : List Nat} (h : w.length < 2 ^ 20) : (D.str w).truthOk = true := by
  simp [D.truthOk]; omega
theorem em_p3 {F : Fn} {prog : Program} {A : Around} {h₀ : Heap} {got : List Nat} (h2 : got.length < 2 ^ 20) (hsc : F.env.scope = sc (stmtAt 2)) (M : Made C Mu h₀ F) (hA : Rm k A) (F₂ : Fn) (S : Sub F F₂) (us : List (List Nat)) (st en : Nat) (he : en ≤ got.length) (hu : ∀ w ∈ us, w.length < 2 ^ 20) :
    XS prog C A F₂ [("ws", .own (us.map .str)), ("startpos", .int (st : Nat)), ("endpos", .int (en : Nat)), ("got", .str got)] ((bd (stmtAt 2)).drop 8) (Ret C F (.bool (em3 got us st en))) NoE := by
  have H₂ := S.fok
  have hsc₂ : F₂.env.scope = sc (stmtAt 2) := by rw [S.env]; exact hsc
  refine XS.iff (b := decide ((st : Int) > (en : Nat))) H₂ hA (by walk_at "tt") (fun hb => ?_) (fun hb => ?_)
  · have e : em3 got us st en = false := by unfold em3; rw [if_pos (by simpa using hb)]
    rw [e]
    exact XS.ret H₂ hA (by walk_at "ev") (Ret.up S)
  have e : em3 got us st en = emLoop got en st us := by unfold em3; rw [if_neg (by simpa using hb)]
  rw [e]
  refine XS.thenn (ρ' := [("ws", .own (us.map .str)), ("startpos", .int (st : Nat)), ("endpos", .int (en : Nat)), ("got", .str got)]) ?_ (fun p hp => hp)
  refine XS.freeze S M.ownC (x := "ws") (ρ₂ := [("ws", .list (us.map .str)), ("startpos", .int (st : Nat)), ("endpos", .int (en : Nat)), ("got", .str got)]) (List.Mem.head _) (by walk_at "frz") fun F₃ S₃ => ?_
  have H₃ := S₃.fok
  have hsc₃ : F₃.env.scope = sc (stmtAt 2) := by rw [S₃.env]; exact hsc
  refine XS.forI H₃ (ds := us.map .str) (ρs := fun i => [("startpos", .int (emAt got en st us i : Nat)), ("endpos", .int (en : Nat)), ("got", .str got)]) (fun i => emLoop got en (emAt got en st us i) (us.drop i) = emLoop got en st us) (fun _ => False) (fun d => d = .bool (emLoop got en st us)) hA (SrcE.list (by walk_at "ev")) (by walk_at "sub") rfl (fun i d hd hI => ?body) (fun dr v s e a b => Ret.up S₃ v s a (e ▸ b)) (fun _ h => h.elim) (fun hI => ?rest)
  case rest =>
    rw [List.length_map, List.drop_length, emLoop] at hI
    rw [← hI]
    exact XS.ret H₃ hA (by walk_at "ev") (Ret.up S₃)
  case body =>
    obtain ⟨w, hw, rfl⟩ := map_get hd
    obtain ⟨t1, t2⟩ := em_turn hw hI
    have hwl := hu w (List.mem_of_getElem? hw)
    refine ⟨[("w", .str w), ("startpos", .int (emAt got en st us i : Nat)), ("endpos", .int (en : Nat)), ("got", .str got)], fun F₄ L₄ => ?_, fun F₄ L₄ => ?_⟩
    · have hsc₄ : F₄.env.scope = sc (stmtAt 2) := by rw [L₄.env]; exact hsc₃
      exact Asg.name L₄.fok (kd hsc₄ (by decide +kernel)) (by walk_at "ne")
    have H₄ := L₄.fok
    have hsc₄ : F₄.env.scope = sc (stmtAt 2) := by rw [L₄.env]; exact hsc₃
    refine XS.asgW (d := .int (findIn got w (emAt got en st us i) en)) (ρ₀ := [("w", .str w), ("endpos", .int (en : Nat)), ("got", .str got)]) H₄ hA (EV.meth H₄ (by walk_at "ev") GetM.find (by walk_at "evs") (TL.find4 he)) (kd hsc₄ (by decide +kernel)) (by walk_at "subne") ?_
    refine XS.iff (b := decide (findIn got w (emAt got en st us i) en < 0)) H₄ hA (by walk_at "tt") (fun hb => ?_) (fun hb => ?_)
    · exact XS.ret H₄ hA (by walk_at "ev") fun v s hs r => ⟨_, by rw [t1 (by simpa using hb)], hs.weaken (fun _ h => nomatch h), r⟩
    refine XS.thenn (ρ' := [("startpos", .int (findIn got w (emAt got en st us i) en)), ("w", .str w), ("endpos", .int (en : Nat)), ("got", .str got)]) ?_ (fun p hp => hp)
    have hb' : ¬ findIn got w (emAt got en st us i) en < 0 := by simpa using hb
    have es := emAt_succ hw hb'
    refine XS.aug (d1 := .int (findIn got w (emAt got en st us i) en)) (d2 := .int w.length) (d := .int (emAt got en st us (i + 1) : Nat)) (ρ' := [("endpos", .int (en : Nat)), ("got", .str got)]) H₄ hA (by walk_at "mem") rfl (EV.callB H₄ (kd hsc₄ (by decide +kernel)) (by walk_at "mem") (by walk_at "evs") (TL.lens (by omega))) (by rw [es]; exact T2.iadd) (kd hsc₄ (by decide +kernel)) (by walk_at "subne") ?_
    exact XS.nil fun s' hs' => ⟨t2 hb', hs'⟩
theorem last_get {us : List (List Nat)} (h : us ≠ []) : (us.map D.str)[((-1 : Int) + (us.map D.str).length).toNat]? = some (.str (us.getLastD [])) := by
  have hl : 0 < us.length := List.length_pos_iff.mpr h
  rw [List.length_map, show ((-1 : Int) + us.length).toNat = us.length - 1 by omega, List.getElem?_map, ← List.getLast?_eq_getElem?]
  obtain ⟨a, e⟩ := Option.isSome_iff_exists.mp (List.getLast?_isSome.mpr h)
  rw [List.getLastD_eq_getLast?, e]; rfl
theorem last_idx {us : List (List Nat)} (h : us ≠ []) : seqIndex? (-1) (us.map D.str).length = some (us.length - 1) := by
  have hl : 0 < us.length := List.length_pos_iff.mpr h
  rw [List.length_map]
  unfold seqIndex?
  simp only [show ((-1 : Int) < 0) = True by simp, if_true]
  rw [if_pos (by simp; omega)]
  congr 1; omega
theorem last_erase {us : List (List Nat)} : (us.map D.str).eraseIdx (us.length - 1) = us.dropLast.map D.str := by
  rw [show us.length - 1 = (us.map D.str).length - 1 by simp, List.eraseIdx_length_sub_one, List.map_dropLast]
theorem em_p2 (G : PG C) {F : Fn} {prog : Program} {A : Around} {h₀ : Heap} {got : List Nat} (h2 : got.length < 2 ^ 20) (hsc : F.env.scope = sc (stmtAt 2)) (M : Made C Mu h₀ F) (hA : Rm k A) (F₂ : Fn) (S : Sub F F₂) (us : List (List Nat)) (st : Nat) (hu : ∀ w ∈ us, w.length < 2 ^ 20) (hn : us ≠ []) (hl : us.length < 2 ^ 20) :
    XS prog C A F₂ [("ws", .own (us.map .str)), ("startpos", .int (st : Nat)), ("endpos", .int (got.length : Nat)), ("got", .str got)] ((bd (stmtAt 2)).drop 6) (Ret C F (.bool (em2 got us st))) NoE := by
  have H₂ := S.fok
  have hsc₂ : F₂.env.scope = sc (stmtAt 2) := by rw [S.env]; exact hsc
  have hlen : 0 < us.length := List.length_pos_iff.mpr hn
  refine XS.asgW (d := .str (us.getLastD [])) (ρ₀ := [("ws", .own (us.map .str)), ("startpos", .int (st : Nat)), ("endpos", .int (got.length : Nat)), ("got", .str got)]) H₂ hA
    (EV.view H₂ (x := "ws") (ds := us.map .str) (ρ₂ := [("ws", .list (us.map .str))]) (List.Mem.head _) rfl (fun p hp => .inl (List.mem_singleton.mp hp)) fun F₄ H₄ he => EV.item (T := "list") H₄ (by walk_at "ev") (by walk_at "ev") (T2.idxlN (by decide) (by decide) (by rw [List.length_map]; omega) (last_get hn)) rfl)
    (by walk_at "kd") (by walk_at "subne") ?_
  have hv : (us.getLastD []).length < 2 ^ 20 := by
    rw [List.getLastD_eq_getLast?]
    cases q : us.getLast? with
    | none => simp
    | some v => exact hu v (List.mem_of_getLast? q)
  have e2 : em2 got us st = if (us.getLastD []).isEmpty then em3 got us st got.length else if Txt.endswith (mkS got) (mkS (us.getLastD [])) then em3 got us.dropLast st (got.length - (us.getLastD []).length) else false := rfl
  rw [e2]
  generalize us.getLastD [] = v at hv
  refine XS.iff (b := !v.isEmpty) H₂ hA (TT.val H₂ (d := .str v) (by walk_at "ev") (str_truth hv) rfl) (fun hb => ?_) (fun hb => ?_)
  · have q : v.isEmpty = false := by simpa using hb
    simp only [q, Bool.false_eq_true, if_false]
    refine XS.iff (b := Txt.endswith (mkS got) (mkS v)) H₂ hA (TT.val H₂ (d := .bool (Txt.endswith (mkS got) (mkS v))) (EV.meth H₂ (by walk_at "ev") GetM.endswith (by walk_at "evs") TL.endswith) rfl rfl) (fun hb => ?_) (fun hb => ?_)
    · have hle := endsw_len hb
      simp only [hb, if_true]
      refine XS.aug (d1 := .int (got.length : Nat)) (d2 := .int v.length) (d := .int (got.length - v.length : Nat)) (ρ' := [("w", .str v), ("ws", .own (us.map .str)), ("startpos", .int (st : Nat)), ("got", .str got)]) H₂ hA (by walk_at "mem") rfl (EV.callB H₂ (by walk_at "kd") (by walk_at "mem") (by walk_at "evs") (TL.lens (by omega))) (by rw [Int.natCast_sub hle]; exact T2.isub) (by walk_at "kd") (by walk_at "subne") ?_
      refine XS.del (ds := us.map .str) (ρ' := [("startpos", .int (st : Nat)), ("endpos", .int (got.length - v.length : Nat)), ("got", .str got)]) H₂ hA (by walk_at "mem") (by walk_at "ev") (last_idx hn) (by decide) (by rw [List.length_map]; omega) (by walk_at "kd") (by walk_at "subown") ?_
      rw [last_erase]
      exact XS.thenn (XS.thenn (em_p3 h2 hsc M hA F₂ S us.dropLast st _ (Nat.sub_le _ _) fun w hw => hu w ((List.dropLast_sublist us).subset hw)) (fun p hp => hp)) (fun p hp => hp)
    · simp only [hb, Bool.false_eq_true, if_false]
      exact XS.ret H₂ hA (by walk_at "ev") (Ret.up S)
  · have q : v.isEmpty = true := by simpa using hb
    simp only [q, if_true]
    exact XS.thenn (em_p3 h2 hsc M hA F₂ S us st _ (Nat.le_refl _) hu) (by walk_at "sub")
theorem em_spec (G : PG C) {want got : List Nat} (h1 : want.length < 2 ^ 18) (h2 : got.length < 2 ^ 20) :
    TL C (k + 1) Mu [.str want, .str got] (fun vs => call (.ref 21) vs) (.bool (em want got)) := by
  refine TL.defP G (n := 2) (cd := 20) (names := ["want", "got"]) (by decide) (fun pm vs hv => by obtain ⟨v, w, rfl⟩ := len2 hv; kernel_rfl) (by decide +kernel) rfl ?_
  intro prog A F h₀ hsc M H hA
  have em_eq : em want got = if Txt.contains (mkS want) (mkS dots) then em1 got (splitL want dots) else want == got := rfl
  refine XS.iff (b := !Txt.contains (mkS want) (mkS dots)) H hA (TT.cmp H (EV.dots H G (by walk_at "kd")) (by walk_at "ev") T2.nins) (fun hb => ?_) (fun hb => ?_)
  · have hc : Txt.contains (mkS want) (mkS dots) = false := by simpa using hb
    rw [em_eq, hc]
    exact XS.ret H hA (by walk_at "ev") Ret.of
  have hc : Txt.contains (mkS want) (mkS dots) = true := by simpa using hb
  have hws := split_two hc
  obtain ⟨hl, hu⟩ := split_size want
  rw [em_eq, hc, if_pos rfl]
  refine XS.thenn (ρ' := [("want", .str want), ("got", .str got)]) ?_ (fun p hp => hp)
  refine XS.own (Sub.refl M) (ds := (splitL want dots).map .str) hA (EVF.split H (by walk_at "ev") (EVs.cons H (EV.dots H G (by walk_at "kd")) EVs.nil) (by simp) (by omega)) (own_all _) (by walk_at "kd") (by walk_at "ne") ?_
  generalize splitL want dots = ws at hws hl hu
  have hn : ws ≠ [] := fun q => by rw [q] at hws; simp at hws
  intro F₂ S
  have H₂ := S.fok
  have hsc₂ : F₂.env.scope = sc (stmtAt 2) := by rw [S.env]; exact hsc
  refine XS.assert H₂ hA (TT.view H₂ (x := "ws") (ds := ws.map .str) (ρ₂ := [("ws", .list (ws.map .str))]) (List.Mem.head _) (fun p hp => .inl (List.mem_singleton.mp hp)) fun F₄ H₄ he => ?as) ?_
  case as =>
    have hsc₄ : F₄.env.scope = sc (stmtAt 2) := by rw [he]; exact hsc₂
    exact TT.toB (TT.cmp H₄ (EV.callB H₄ (by walk_at "kd") (by walk_at "mem") (by walk_at "evs") (TL.lenl (by rw [List.length_map]; omega))) (EV.int _) T2.gei) (by rw [List.length_map]; exact decide_eq_true (by omega))
  refine XS.asgS (names := ["startpos", "endpos"]) (ds := [.int (0 : Nat), .int (got.length : Nat)]) H₂ hA (EV.tup H₂ (EVs.cons H₂ (EV.int _) (EVs.cons H₂ (EV.callB H₂ (by walk_at "kd") (by walk_at "mem") (by walk_at "evs") (TL.lens (by omega))) EVs.nil)) (Nat.le_of_ble_eq_true rfl)) rfl (fun n hn => ?nk) (by decide +kernel) (sub_notin (by kernel_rfl)) ?_ (swA hsc₂ fun L g c q f cd fr b => by kernel_rfl) (swB hsc₂ fun L g c q f cd fr b => by kernel_rfl)
  case nk =>
    rcases List.mem_cons.mp hn with rfl | hn
    · walk_at "kd"
    · rw [List.mem_singleton.mp hn]; walk_at "kd"
  refine XS.asgW (d := .str (ws.headD [])) (ρ₀ := [("startpos", .int (0 : Nat)), ("endpos", .int (got.length : Nat)), ("ws", .own (ws.map .str)), ("got", .str got)]) H₂ hA
    (EV.view H₂ (x := "ws") (ds := ws.map .str) (ρ₂ := [("ws", .list (ws.map .str))]) (by walk_at "mem") rfl (fun p hp => .inl (List.mem_singleton.mp hp)) fun F₄ H₄ he => EV.item (T := "list") H₄ (by walk_at "ev") (by walk_at "ev") (T2.idxl (by decide) (by decide) (by cases ws with | nil => exact absurd rfl hn | cons a r => rfl)) rfl)
    (by walk_at "kd") (by walk_at "subne") ?_
  have hv : (ws.headD []).length ≤ want.length := by
    cases ws with
    | nil => exact absurd rfl hn
    | cons a r => exact hu a (List.mem_cons_self ..)
  have e1 : em1 got ws = if (ws.headD []).isEmpty then em2 got ws 0 else if Txt.startswith (mkS got) (mkS (ws.headD [])) then em2 got ws.tail (ws.headD []).length else false := rfl
  rw [e1]
  generalize ws.headD [] = v at hv
  refine XS.iff (b := !v.isEmpty) H₂ hA (TT.val H₂ (d := .str v) (by walk_at "ev") (str_truth (by omega)) rfl) (fun hb => ?_) (fun hb => ?_)
  · have q : v.isEmpty = false := by simpa using hb
    simp only [q, Bool.false_eq_true, if_false]
    refine XS.iff (b := Txt.startswith (mkS got) (mkS v)) H₂ hA (TT.val H₂ (d := .bool (Txt.startswith (mkS got) (mkS v))) (EV.meth H₂ (by walk_at "ev") GetM.startswith (by walk_at "evs") TL.startswith) rfl rfl) (fun hb => ?_) (fun hb => ?_)
    · simp only [hb, if_true]
      refine XS.asgW (d := .int (v.length : Nat)) (ρ₀ := [("endpos", .int (got.length : Nat)), ("ws", .own (ws.map .str)), ("got", .str got)]) H₂ hA (EV.callB H₂ (by walk_at "kd") (by walk_at "mem") (by walk_at "evs") (TL.lens (by omega))) (by walk_at "kd") (by walk_at "subne") ?_
      refine XS.del (ds := ws.map .str) (j := 0) (ρ' := [("startpos", .int (v.length : Nat)), ("endpos", .int (got.length : Nat)), ("got", .str got)]) H₂ hA (by walk_at "mem") (by walk_at "ev") (by rw [List.length_map]; exact seqIndex_pos (by decide) (by simp; omega)) (by decide) (by rw [List.length_map]; omega) (by walk_at "kd") (by walk_at "subown") ?_
      have e0 : (ws.map D.str).eraseIdx 0 = ws.tail.map .str := by cases ws <;> rfl
      rw [e0]
      exact XS.thenn (XS.thenn (em_p2 G h2 hsc M hA F₂ S ws.tail v.length (fun w hw => by have := hu w (List.mem_of_mem_tail hw); omega) (fun q => by have := congrArg List.length q; simp at this; omega) (by simp; omega)) (fun p hp => hp)) (fun p hp => hp)
    · simp only [hb, Bool.false_eq_true, if_false]
      exact XS.ret H₂ hA (by walk_at "ev") (Ret.up S)
  · have q : v.isEmpty = true := by simpa using hb
    simp only [q, if_true]
    exact XS.thenn (em_p2 G h2 hsc M hA F₂ S ws 0 (fun w hw => by have := hu w hw; omega) hn (by omega)) (by walk_at "sub")
end
section
variable {C : Base} {k : Nat} {F : Fn} {ρ : Rho}
theorem TT.or2 (H : FOK F) {e f : Expr} {pos} {p q : Bool} (h1 : TT C k F ρ e p) (h2 : p = false → TT C k F ρ f q) : TT C k F ρ (.BoolOp .Or [e, f] pos) (p || q) := by
  refine TT.mk ?_
  intro prog A s Q E hA hs hQ
  show wpAny _ _ (do match BoolOp.Or, ← isTrue e F.env (eval e F.env) with
    | .And, false => pure false
    | .Or, true => pure true
    | _, _ => allTrue .Or [f] F.env) _ _ _
  refine wpAny_bind (h1.run _ _ _ _ _ hA hs fun s1 y1 => ?_)
  cases p with
  | true => exact wpAny_pure (hQ _ y1)
  | false =>
    show wpAny _ _ (do match BoolOp.Or, ← isTrue f F.env (eval f F.env) with
      | .And, false => pure false
      | .Or, true => pure true
      | _, _ => allTrue .Or [] F.env) _ _ _
    refine wpAny_bind ((h2 rfl).run _ _ _ _ _ hA (hs.step y1 H.nt) fun s2 y2 => ?_)
    cases q with
    | true => exact wpAny_pure (hQ _ (y1.trans y2))
    | false => exact wpAny_pure (hQ _ (y1.trans y2))
theorem TT.and2 (H : FOK F) {e f : Expr} {pos} {p q : Bool} (h1 : TT C k F ρ e p) (h2 : p = true → TT C k F ρ f q) : TT C k F ρ (.BoolOp .And [e, f] pos) (p && q) := by
  refine TT.mk ?_
  intro prog A s Q E hA hs hQ
  show wpAny _ _ (do match BoolOp.And, ← isTrue e F.env (eval e F.env) with
    | .And, false => pure false
    | .Or, true => pure true
    | _, _ => allTrue .And [f] F.env) _ _ _
  refine wpAny_bind (h1.run _ _ _ _ _ hA hs fun s1 y1 => ?_)
  cases p with
  | false => exact wpAny_pure (hQ _ y1)
  | true =>
    show wpAny _ _ (do match BoolOp.And, ← isTrue f F.env (eval f F.env) with
      | .And, false => pure false
      | .Or, true => pure true
      | _, _ => allTrue .And [] F.env) _ _ _
    refine wpAny_bind ((h2 rfl).run _ _ _ _ _ hA (hs.step y1 H.nt) fun s2 y2 => ?_)
    cases q with
    | true => exact wpAny_pure (hQ _ (y1.trans y2))
    | false => exact wpAny_pure (hQ _ (y1.trans y2))
theorem flat_range {α : Type} (f : α → List D) (l : List α) (d : α) : ((List.range l.length).flatMap fun i => f (l.getD i d)) = l.flatMap f := by
  induction l with
  | nil => rfl
  | cons a r ih =>
    rw [List.length_cons, List.range_succ_eq_map, List.flatMap_cons, List.flatMap_cons, ← ih, List.flatMap_map]
    rfl
theorem flat_filter {α : Type} (b : α → Bool) (f : α → D) (l : List α) : (l.flatMap fun a => if b a then [f a] else []) = (l.filter b).map f := by
  induction l with
  | nil => rfl
  | cons a r ih =>
    rw [List.flatMap_cons, ih, List.filter_cons]
    cases b a <;> rfl
theorem map_get' {α : Type} {g : α → D} {l : List α} {i : Nat} {d : D} (h : (l.map g)[i]? = some d) (a0 : α) : d = g (l.getD i a0) ∧ l.getD i a0 ∈ l := by
  rw [List.getElem?_map] at h
  cases q : l[i]? with
  | none => rw [q] at h; cases h
  | some w => rw [q] at h; cases h; rw [List.getD_eq_getElem?_getD, q]; exact ⟨rfl, List.mem_of_getElem? q⟩
variable {α : Type} {P : Fn → Rho → D → Prop} {F₀ : Fn} {scope : Scope} {ρc : Rho} {ifs : List Expr}
theorem CL.one [Inhabited α] {x : Str} {px : Pos} (g : α → D) (xs : List α) (b : α → Bool) (f : α → D) (IC : InComp F₀ F scope) (hk : scope.names.lookup x = some .local) (hx : ρc.all (fun p => p.1 != x) = true)
    (h2 : ∀ a ∈ xs, ∀ F₂, InComp F₀ F₂ scope → FOK F₂ → Ifs C k F₂ ((x, g a) :: ρc) ifs (b a))
    (h3 : ∀ a ∈ xs, b a = true → ∀ F₂, InComp F₀ F₂ scope → FOK F₂ → P F₂ ((x, g a) :: ρc) (f a)) :
    CL C k P F ρc (.Name x px) ifs [] (xs.map g) ((xs.filter b).map f) := by
  have c := CL.last (C := C) (k := k) (P := P) (F := F) (ρ := ρc) (target := .Name x px) (ifs := ifs) (ds := xs.map g) (fun i => (x, g (xs.getD i default)) :: ρc) (fun i => b (xs.getD i default)) (fun i => f (xs.getD i default))
    (fun i d hd => ⟨fun p hp => List.mem_cons_of_mem _ hp, fun F₂ L => (map_get' hd default).1 ▸ Asg.name L.fok ((IC.like L).kd hk (by decide)) (ne_of_all hx)⟩)
    (fun i d hd F₂ L => h2 _ (map_get' hd default).2 F₂ (IC.like L) L.fok)
    (fun i d hd hb F₂ L => h3 _ (map_get' hd default).2 hb F₂ (IC.like L) L.fok)
  rw [List.length_map, flat_range (fun a => if b a then [f a] else []), flat_filter] at c
  exact c
theorem CL.pair [Inhabited α] {x y : Str} {px py pt : Pos} {n : Nat} (g1 g2 : α → D) (xs : List α) (b : α → Bool) (f : α → D) (IC : InComp F₀ F scope) (hk : scope.names.lookup x = some .local) (hk2 : scope.names.lookup y = some .local) (hxy : (x != y) = true) (hx : ρc.all (fun p => p.1 != x) = true) (hy : ρc.all (fun p => p.1 != y) = true)
    (h2 : ∀ a ∈ xs, ∀ F₂, InComp F₀ F₂ scope → FOK F₂ → Ifs C k F₂ ((y, g2 a) :: (x, g1 a) :: ρc) ifs (b a))
    (h3 : ∀ a ∈ xs, b a = true → ∀ F₂, InComp F₀ F₂ scope → FOK F₂ → P F₂ ((y, g2 a) :: (x, g1 a) :: ρc) (f a)) :
    CL C k P F ρc (.Tuple [.Name x px, .Name y py] n pt) ifs [] (xs.map fun a => .tup [g1 a, g2 a]) ((xs.filter b).map f) := by
  have c := CL.last (C := C) (k := k) (P := P) (F := F) (ρ := ρc) (target := .Tuple [.Name x px, .Name y py] n pt) (ifs := ifs) (ds := xs.map fun a => .tup [g1 a, g2 a]) (fun i => (y, g2 (xs.getD i default)) :: (x, g1 (xs.getD i default)) :: ρc) (fun i => b (xs.getD i default)) (fun i => f (xs.getD i default))
    (fun i d hd => ⟨fun p hp => List.mem_cons_of_mem _ (List.mem_cons_of_mem _ hp), fun F₂ L => (map_get' hd default).1 ▸ Asg.tup L.fok (AsgL.cons (fun F₃ L₃ => Asg.name L₃.fok ((IC.like (L.trans L₃)).kd hk (by decide)) (ne_of_all hx)) rfl
      (AsgL.cons (fun F₃ L₃ => Asg.name L₃.fok ((IC.like (L.trans L₃)).kd hk2 (by decide)) (fun p hp => (List.mem_cons.mp hp).elim (fun e => by rw [e]; simpa using hxy) (ne_of_all hy p))) rfl AsgL.nil))⟩)
    (fun i d hd F₂ L => h2 _ (map_get' hd default).2 F₂ (IC.like L) L.fok)
    (fun i d hd hb F₂ L => h3 _ (map_get' hd default).2 hb F₂ (IC.like L) L.fok)
  rw [List.length_map, flat_range (fun a => if b a then [f a] else []), flat_filter] at c
  exact c
theorem filter_true {l : List α} : (l.filter fun _ => true) = l := List.filter_eq_self.mpr fun _ _ => rfl
theorem Sees.of {S : Scope} (hsc : F.env.scope = S) (hcs : ∀ x, S.names.lookup x = some .cell → ∃ c, CellOK F x c) (h1 : scopeOK scope = true) (h2 : scope.names.all (fun p => p.2 != .free || S.names.lookup p.1 == some .cell) = true)
    (h3 : ρc.all (fun p => !p.2.isOwn && (scope.names.lookup p.1 == some .free && S.names.lookup p.1 == some .cell)) = true) (h4 : ∀ p ∈ ρc, p ∈ ρ) : Sees F scope ρ ρc := by
  have q3 := List.all_eq_true.mp h3
  refine ⟨h1, fun p hp hf => ?_, List.all_eq_true.mpr fun p hp => ?_, fun p hp => ?_⟩
  · have := List.all_eq_true.mp h2 p hp
    rw [hf] at this
    simp at this
    obtain ⟨c, K⟩ := hcs _ this
    exact ⟨c, K.at_⟩
  · have := q3 p hp
    rw [Bool.and_eq_true] at this
    exact this.1
  · have := q3 p hp
    simp only [Bool.and_eq_true, beq_iff_eq] at this
    exact ⟨h4 p hp, this.2.1, .inl (kdS hsc this.2.2)⟩
theorem IC.kdG {F F₂ : Fn} {scope : Scope} (IC : InComp F F₂ scope) {x : Str} (e : scope.names.lookup x = some .globalImplicit) : F₂.env.kindOf x = some .globalImplicit := IC.kd e (by decide)
theorem picks_from {α : Type} {x : List α} {i : Nat} : picks x (some (i : Int)) none none = x.drop i := by
  rw [picks_eq]
  unfold kms_lo kms_hi
  simp only [show ¬ ((i : Int) < 0) by omega, if_false, Int.toNat_natCast]
  rcases Nat.le_total i x.length with h | h
  · rw [Nat.min_eq_left h, List.take_of_length_le (by simp)]
  · rw [Nat.min_eq_right h, Nat.sub_self, List.take_zero, List.drop_of_length_le h]
theorem picks_to {α : Type} {x : List α} {i : Nat} : picks x none (some (i : Int)) none = x.take i := by
  rw [picks_eq]
  unfold kms_lo kms_hi
  simp only [show ¬ ((i : Int) < 0) by omega, if_false, Int.toNat_natCast, List.drop_zero, Nat.sub_zero]
  rcases Nat.le_total i x.length with h | h
  · rw [Nat.min_eq_left h]
  · rw [Nat.min_eq_right h, List.take_length, List.take_of_length_le h]
theorem picks_ft {α : Type} {x : List α} {i j : Nat} : picks x (some (i : Int)) (some (j : Int)) none = (x.drop i).take (j - i) := by
  rw [picks_eq]
  unfold kms_lo kms_hi
  simp only [show ¬ ((i : Int) < 0) by omega, show ¬ ((j : Int) < 0) by omega, if_false, Int.toNat_natCast]
  rcases Nat.le_total i x.length with h | h
  · rw [Nat.min_eq_left h]
    rcases Nat.le_total j x.length with h' | h'
    · rw [Nat.min_eq_left h']
    · rw [Nat.min_eq_right h', List.take_of_length_le (by simp), List.take_of_length_le (by simp; omega)]
  · rw [Nat.min_eq_right h, List.drop_of_length_le h, List.drop_of_length_le (Nat.le_refl _)]; simp
theorem picks_init {α : Type} {x : List α} : picks x none (some (-1)) none = x.dropLast := by
  rw [picks_eq]
  unfold kms_lo kms_hi
  simp only [show ((-1 : Int) < 0) by omega, if_true, List.drop_zero, Nat.sub_zero]
  rw [List.dropLast_eq_take]; rfl
theorem EV.toS {e : Expr} {x y : List Nat} (h : EV C k F ρ e (.str x)) (q : x = y) : EV C k F ρ e (.str y) := q ▸ h
variable {e lo hi : Expr} {p pos : Pos} {x : List Nat} {i j : Nat}
theorem EV.from (H : FOK F) (h1 : EV C k F ρ e (.str x)) (hl : EV C k F ρ lo (.int i)) (hn : x.length ≤ 2 ^ 24) : EV C k F ρ (.Subscript e (.Slice (some lo) none none p) pos) (.str (x.drop i)) :=
  EV.toS (EV.slices (lo := some lo) (hi := none) (l := some (i : Int)) (u := none) H h1 hl trivial hn) picks_from
theorem EV.to (H : FOK F) (h1 : EV C k F ρ e (.str x)) (hl : EV C k F ρ hi (.int i)) (hn : x.length ≤ 2 ^ 24) : EV C k F ρ (.Subscript e (.Slice none (some hi) none p) pos) (.str (x.take i)) :=
  EV.toS (EV.slices (lo := none) (hi := some hi) (l := none) (u := some (i : Int)) H h1 trivial hl hn) picks_to
theorem EV.ft (H : FOK F) (h1 : EV C k F ρ e (.str x)) (hl : EV C k F ρ lo (.int i)) (hu : EV C k F ρ hi (.int j)) (hn : x.length ≤ 2 ^ 24) : EV C k F ρ (.Subscript e (.Slice (some lo) (some hi) none p) pos) (.str ((x.drop i).take (j - i))) :=
  EV.toS (EV.slices (lo := some lo) (hi := some hi) (l := some (i : Int)) (u := some (j : Int)) H h1 hl hu hn) picks_ft
theorem EV.init (H : FOK F) (h1 : EV C k F ρ e (.str x)) (hl : EV C k F ρ hi (.int (-1))) (hn : x.length ≤ 2 ^ 24) : EV C k F ρ (.Subscript e (.Slice none (some hi) none p) pos) (.str x.dropLast) :=
  EV.toS (EV.slices (lo := none) (hi := some hi) (l := none) (u := some (-1)) H h1 trivial hl hn) picks_init
variable {Mu : Addr → Prop} {c : Nat} {l : List Nat}
theorem T2.lastS (h : l ≠ []) (hl : l.length < 2 ^ 60) : T2 C k Mu (.str l) (.int (-1)) getItem (.str [l.getLastD 0]) := by
  have hp : 0 < l.length := List.length_pos_iff.mpr h
  refine T2.idxs (j := l.length - 1) (by decide) (by decide) ?_ ?_
  · unfold seqIndex?
    simp only [show ((-1 : Int) < 0) = True by simp, if_true]
    rw [if_pos (by simp; omega)]
    congr 1; omega
  · rw [List.getLastD_eq_getLast?, ← List.getLast?_eq_getElem?]
    obtain ⟨a, e⟩ := Option.isSome_iff_exists.mp (List.getLast?_isSome.mpr h)
    rw [e]; rfl
theorem T2.atS {i : Nat} (h : i < l.length) (hl : l.length < 2 ^ 60) : T2 C k Mu (.str l) (.int i) getItem (.str [l.getD i 0]) := by
  refine T2.idxs (j := i) (by omega) (by omega) (seqIndex_pos (by omega) (by simpa using h)) ?_
  rw [List.getD_eq_getElem?_getD, List.getElem?_eq_getElem h]; rfl
theorem T2.mulc {n : Nat} (h : n ≤ 2 ^ 20) : T2 C k Mu (.str [c]) (.int n) (binaryOp .Mult) (.str (List.replicate n c)) := by
  have := T2.muls (C := C) (k := k) (Mu := Mu) (x := [c]) (a := n) (by omega) (by simpa using h) (by omega)
  rw [Int.toNat_natCast, List.flatten_replicate_singleton] at this
  exact this
theorem T2.inc : T2 C k Mu (.str [c]) (.str l) (compareOp .In) (.bool (decide (c ∈ l))) := by
  have := T2.ins (C := C) (k := k) (Mu := Mu) (x := l) (y := [c])
  rw [show Txt.contains (mkS l) (mkS [c]) = decide (c ∈ l) from StrLaws.found_one (mkS l) c] at this
  exact this
theorem cnt_eq (l : List Nat) : PyProof.Rows.cnt c l = l.count c := by
  induction l with
  | nil => rfl
  | cons n r ih =>
    rw [cnt_cons, ih, List.count_cons]
    by_cases h : n = c
    · simp [h]; omega
    · simp [h]
theorem TL.countc : TL C k Mu [.str l, .str [c]] (fun vs => call (.builtin "str.count") vs) (.int (l.count c : Nat)) := by
  have := TL.count (C := C) (k := k) (Mu := Mu) (x := l) (y := [c])
  rw [show Txt.count (mkS l) (mkS [c]) = ((l.count c : Nat) : Int) by rw [← cnt_eq]; exact count_cnt (mkS l) c] at this
  exact this
theorem TL.findc (h : c ∈ l) : TL C k Mu [.str l, .str [c]] (fun vs => call (.builtin "str.find") vs) (.int (l.idxOf c : Nat)) := by
  have := TL.find (C := C) (k := k) (Mu := Mu) (x := l) (y := [c])
  have e : Txt.find (mkS l) (mkS [c]) = ((l.idxOf c : Nat) : Int) := by
    have hi : l[l.idxOf c]? = some c := by rw [List.getElem?_eq_getElem (List.idxOf_lt_length_of_mem h), List.getElem_idxOf]
    rcases find_whole (mkS l) (mkS [c]) with ⟨_, hn⟩ | ⟨i, e, hA, hn⟩
    · exact absurd ((StrLaws.subAt_one (mkS l) c (l.idxOf c)).mpr hi) (hn _)
    · rw [e]
      have hA' : l[i]? = some c := (StrLaws.subAt_one (mkS l) c i).mp hA
      rcases Nat.lt_trichotomy i (l.idxOf c) with q | q | q
      · exfalso
        have hlt := (List.getElem?_eq_some_iff.mp hA')
        obtain ⟨h1, h2⟩ := hlt
        have := List.not_of_lt_findIdx (p := (· == c)) (xs := l) (i := i) q
        simp [h2] at this
      · rw [q]
      · exact absurd ((StrLaws.subAt_one (mkS l) c (l.idxOf c)).mpr hi) (hn _ q)
  rw [e] at this
  exact this
end
structure CN (n : Nat) (d : D) : Prop where
  plain : D.plain d = true
  lay : d.py.canLay0 = true
  depth : d.py.depth ≤ n
theorem CN.int {n : Nat} (i : Int) : CN n (.int i) := ⟨rfl, rfl, Nat.zero_le _⟩
theorem CN.bool {n : Nat} (i : Bool) : CN n (.bool i) := ⟨rfl, rfl, Nat.zero_le _⟩
theorem CN.all {n : Nat} {l : List D} (h : ∀ d ∈ l, CN n d) : D.plainL l = true ∧ PyData.canLayAll0 (D.pyL l) = true ∧ PyData.depthAll (D.pyL l) ≤ n := by
  induction l with
  | nil => exact ⟨rfl, rfl, Nat.zero_le _⟩
  | cons d r ih =>
    obtain ⟨a, b, c⟩ := ih fun x hx => h x (List.mem_cons_of_mem _ hx)
    obtain ⟨a', b', c'⟩ := h d (List.mem_cons_self ..)
    refine ⟨by rw [D.plainL, a, a']; rfl, ?_, ?_⟩
    · rw [D.pyL, PyData.canLayAll0, b, b']; rfl
    · rw [D.pyL, PyData.depthAll]; omega
theorem CN.list {n : Nat} {l : List D} (h : ∀ d ∈ l, CN n d) : CN (n + 1) (.list l) := by
  obtain ⟨a, b, c⟩ := CN.all h
  refine ⟨by rw [D.plain]; exact a, by rw [D.py, PyData.canLay0]; exact b, ?_⟩
  rw [D.py, PyData.depth]; omega
theorem CN.tup {n : Nat} {l : List D} (h : ∀ d ∈ l, CN n d) : CN (n + 1) (.tup l) := by
  obtain ⟨a, b, c⟩ := CN.all h
  refine ⟨by rw [D.plain]; exact a, by rw [D.py, PyData.canLay0]; exact b, ?_⟩
  rw [D.py, PyData.depth]; omega
theorem CN.nil {n : Nat} : ∀ d ∈ ([] : List D), CN n d := fun _ h => nomatch h
theorem CN.cons {n : Nat} {d : D} {l : List D} (h : CN n d) (t : ∀ d ∈ l, CN n d) : ∀ e ∈ d :: l, CN n e := fun e he => (List.mem_cons.mp he).elim (fun q => q ▸ h) (t e)
theorem CN.map {α : Type} {n : Nat} {f : α → D} {l : List α} (h : ∀ a ∈ l, CN n (f a)) : ∀ e ∈ l.map f, CN n e := fun e he => by obtain ⟨a, ha, rfl⟩ := List.mem_map.mp he; exact h a ha
theorem CN.cmp {n : Nat} {d : D} (h : CN n d) (hn : n ≤ 60 := by decide) : Cmp d := ⟨h.plain, h.lay, Nat.le_trans h.depth hn⟩
section
variable {C : Base} {k : Nat} {F : Fn} {ρ : Rho} {Mu : Addr → Prop}
theorem T2.ner {d : D} (h : Cmp d) : T2 C k Mu d d (compareOp .NotEq) (.bool false) := by
  have := T2.ned (C := C) (k := k) (Mu := Mu) h h
  rw [SeqAt.eqv_refl _ h.lay] at this
  exact this
theorem T2.eqr {d : D} (h : Cmp d) : T2 C k Mu d d (compareOp .Eq) (.bool true) := by
  have := T2.eqd (C := C) (k := k) (Mu := Mu) h h
  rw [SeqAt.eqv_refl _ h.lay] at this
  exact this
theorem any_int (l : List Int) (v : Int) : ((D.pyL (l.map .int)).any fun y => y.eqv (D.int v).py) = l.contains v := by
  induction l with
  | nil => rfl
  | cons a r ih =>
    rw [List.map_cons, D.pyL, List.any_cons, ih, List.contains_cons]
    congr 1
    show (a == v) = _
    exact BEq.comm
theorem T2.ini {v : Int} {l : List Int} : T2 C k Mu (.int v) (.list (l.map .int)) (compareOp .In) (.bool (l.contains v)) := by
  have := T2.inl (C := C) (k := k) (Mu := Mu) (CN.int (n := 0) v).cmp (CN.list (n := 0) (CN.map fun a _ => CN.int a)).cmp (d1 := .int v) (ds := l.map .int)
  rw [any_int] at this
  exact this
theorem EV.toL {e : Expr} {a b : List D} (h : EV C k F ρ e (.list a)) (q : a = b) : EV C k F ρ e (.list b) := q ▸ h
theorem SrcE.toL {e t : Expr} {a b : List D} (h : SrcE C k F ρ e t a) (q : a = b) : SrcE C k F ρ e t b := q ▸ h
@[irreducible] noncomputable def Sz (n : Nat) (x : List Nat) : Prop := x.length ≤ n
theorem Sz.mk {n : Nat} {x : List Nat} (h : x.length ≤ n) : Sz n x := by unfold Sz; exact h
theorem Sz.out {n : Nat} {x : List Nat} (h : Sz n x) : x.length ≤ n := by unfold Sz at h; exact h
theorem Sz.nil : Sz 0 [] := Sz.mk (Nat.le_refl 0)
theorem Sz.one {c : Nat} : Sz 1 [c] := Sz.mk (Nat.le_refl 1)
theorem Sz.dots : Sz 3 [46, 46, 46] := Sz.mk (Nat.le_refl 3)
theorem Sz.app {a b : Nat} {x y : List Nat} (h : Sz a x) (h' : Sz b y) : Sz (a + b) (x ++ y) := by unfold Sz at *; rw [List.length_append]; omega
theorem Sz.drop {a i : Nat} {x : List Nat} (h : Sz a x) : Sz a (x.drop i) := by unfold Sz at *; rw [List.length_drop]; omega
theorem Sz.take {a i : Nat} {x : List Nat} (h : Sz a x) : Sz a (x.take i) := by unfold Sz at *; rw [List.length_take]; omega
theorem Sz.init {a : Nat} {x : List Nat} (h : Sz a x) : Sz a x.dropLast := by unfold Sz at *; rw [List.length_dropLast]; omega
theorem Sz.rep {c n : Nat} (h : n ≤ 8) : Sz 8 (List.replicate n c) := by unfold Sz; rw [List.length_replicate]; exact h
theorem Sz.rep2 {c : Nat} : Sz 2 (List.replicate 2 c) := Sz.mk (Nat.le_refl 2)
theorem T2.addz {a b : Nat} {x y : List Nat} (h : Sz a x) (h' : Sz b y) (q : Nat.ble (a + b) 16777216 = true) : T2 C k Mu (.str x) (.str y) (binaryOp .Add) (.str (x ++ y)) :=
  T2.adds (by unfold Sz at *; rw [sizeLine_eq]; have := Nat.le_of_ble_eq_true q; omega)
theorem Sz.le {a b : Nat} {x : List Nat} (h : Sz a x) (q : Nat.ble a b = true) : x.length ≤ b := Nat.le_trans h.out (Nat.le_of_ble_eq_true q)
noncomputable def spotsL (text : List Nat) : List Nat := (List.range (text.length - 1)).map (1 + ·)
theorem spots_rng (text : List Nat) : rngL 1 1 (text.length - 1) = (spotsL text).map fun (p : Nat) => D.int (p : Int) := by
  unfold rngL spotsL
  rw [List.map_map]
  refine List.map_congr_left fun i _ => ?_
  show D.int _ = D.int _
  congr 1
  rw [Int.natCast_add, Int.mul_one]; rfl
theorem rng_size {a b : Int} {n : Nat} (h : b = a + n) : Builtin.Range.rangeSize a b 1 = (n : Int) := by
  unfold Builtin.Range.rangeSize
  rw [if_pos (by decide)]
  split
  · rw [Int.ediv_one]; omega
  · omega
theorem rng_fit {x : Int} (h1 : -2 ^ 40 ≤ x) (h2 : x ≤ 2 ^ 40) : Builtin.Range.rangeFitsLong x = true := by
  unfold Builtin.Range.rangeFitsLong
  rw [Bool.and_eq_true, decide_eq_true_eq, decide_eq_true_eq]
  omega
theorem rng_small {a b : Int} {n : Nat} (h : b = a + n) (h1 : -2 ^ 30 ≤ a) (h2 : a ≤ 2 ^ 30) (h3 : -2 ^ 30 ≤ b) (h4 : b ≤ 2 ^ 30) : Builtin.Range.small a b 1 = true := by
  unfold Builtin.Range.small
  rw [rng_size h, rng_fit (by omega) (by omega), rng_fit (by omega) (by omega), rng_fit (by omega) (by omega), rng_fit (by omega) (by omega), if_pos (by decide), rng_fit (by omega) (by omega), Bool.or_true]
  rfl
theorem SrcE.spots {e : Expr} {x : Str} {px : Pos} {text : List Nat} (h0 : text ≠ []) (hs : text.length < 2 ^ 20) (he : EV C k F ρ e (.rng 1 (text.length : Nat) 1)) : SrcE C k F ρ e (.Name x px) ((spotsL text).map fun (p : Nat) => D.int (p : Int)) := by
  have hp : 0 < text.length := List.length_pos_iff.mpr h0
  exact SrcE.toL (SrcE.range he (rng_small (n := text.length - 1) (by omega) (by decide) (by decide) (by omega) (by omega)) (rng_size (by omega))) (spots_rng text)
end
section
variable {C : Base} {k : Nat} {F : Fn} {ρ : Rho} {α β : Type} {P : Fn → Rho → D → Prop} {F₀ : Fn} {scope : Scope} {ρc : Rho}
theorem flat_map {f : α → β → D} {ys : α → List β} (l : List α) : (l.flatMap fun a => if true = true then ((ys a).filter fun _ => true).map (f a) else []) = l.flatMap fun a => (ys a).map (f a) := by
  simp only [if_true, filter_true]
theorem CL.two [Inhabited α] [Inhabited β] {x y : Str} {px py : Pos} {iter' : Expr} (g1 : α → D) (xs : List α) (g2 : β → D) (ys : α → List β) (f : α → β → D) (IC : InComp F₀ F scope) (hk : scope.names.lookup x = some .local) (hk2 : scope.names.lookup y = some .local) (hxy : (x != y) = true) (hx : ρc.all (fun p => p.1 != x) = true) (hy : ρc.all (fun p => p.1 != y) = true)
    (h3 : ∀ a ∈ xs, ∀ F₂, InComp F₀ F₂ scope → FOK F₂ → SrcE C k F₂ ((x, g1 a) :: ρc) iter' (.Name y py) ((ys a).map g2))
    (h4 : ∀ F₂, InComp F₀ F₂ scope → ∀ x, foldedSetIterable iter' F₂.env x = pure x)
    (h5 : ∀ a ∈ xs, ∀ b ∈ ys a, ∀ F₂, InComp F₀ F₂ scope → FOK F₂ → P F₂ ((y, g2 b) :: (x, g1 a) :: ρc) (f a b)) :
    CL C k P F ρc (.Name x px) [] [⟨.Name y py, iter', [], 0⟩] (xs.map g1) (xs.flatMap fun a => (ys a).map (f a)) := by
  have c := CL.more (C := C) (k := k) (P := P) (F := F) (ρ := ρc) (target := .Name x px) (ifs := []) (ds := xs.map g1) (target' := .Name y py) (iter' := iter') (ifs' := []) (gs := []) (fun i => (x, g1 (xs.getD i default)) :: ρc) (fun _ => true) (fun i => (ys (xs.getD i default)).map g2) (fun i => ((ys (xs.getD i default)).filter fun _ => true).map (f (xs.getD i default)))
    (fun i d hd => ⟨fun p hp => List.mem_cons_of_mem _ hp, fun F₂ L => (map_get' hd default).1 ▸ Asg.name L.fok ((IC.like L).kd hk (by decide)) (ne_of_all hx)⟩)
    (fun i d hd F₂ L => Ifs.nil)
    (fun i d hd _ F₂ L => h3 _ (map_get' hd default).2 F₂ (IC.like L) L.fok)
    (fun z => h4 F IC z)
    (fun i d hd _ => CL.one g2 (ys (xs.getD i default)) (fun _ => true) (f (xs.getD i default)) IC hk2 (by rw [List.all_cons, Bool.and_eq_true]; exact ⟨hxy, hy⟩) (fun _ _ _ _ _ => Ifs.nil) fun b hb _ F₂ IC₂ H₂ => h5 _ (map_get' hd default).2 b hb F₂ IC₂ H₂)
  rw [List.length_map, flat_range (fun a => if true = true then ((ys a).filter fun _ => true).map (f a) else []), flat_map] at c
  exact c
theorem CL.all [Inhabited α] {x : Str} {px : Pos} (g : α → D) (xs : List α) (f : α → D) (IC : InComp F₀ F scope) (hk : scope.names.lookup x = some .local) (hx : ρc.all (fun p => p.1 != x) = true)
    (h3 : ∀ a ∈ xs, ∀ F₂, InComp F₀ F₂ scope → FOK F₂ → P F₂ ((x, g a) :: ρc) (f a)) :
    CL C k P F ρc (.Name x px) [] [] (xs.map g) (xs.map f) := by
  have := CL.one (C := C) (k := k) (P := P) (px := px) g xs (fun _ => true) f IC hk hx (fun _ _ _ _ _ => Ifs.nil) fun a ha _ => h3 a ha
  rwa [filter_true] at this
theorem CL.allp [Inhabited α] {x y : Str} {px py pt : Pos} {n : Nat} (g1 g2 : α → D) (xs : List α) (f : α → D) (IC : InComp F₀ F scope) (hk : scope.names.lookup x = some .local) (hk2 : scope.names.lookup y = some .local) (hxy : (x != y) = true) (hx : ρc.all (fun p => p.1 != x) = true) (hy : ρc.all (fun p => p.1 != y) = true)
    (h3 : ∀ a ∈ xs, ∀ F₂, InComp F₀ F₂ scope → FOK F₂ → P F₂ ((y, g2 a) :: (x, g1 a) :: ρc) (f a)) :
    CL C k P F ρc (.Tuple [.Name x px, .Name y py] n pt) [] [] (xs.map fun a => .tup [g1 a, g2 a]) (xs.map f) := by
  have := CL.pair (C := C) (k := k) (P := P) (px := px) (py := py) (pt := pt) (n := n) g1 g2 xs (fun _ => true) f IC hk hk2 hxy hx hy (fun _ _ _ _ _ => Ifs.nil) fun a ha _ => h3 a ha
  rwa [filter_true] at this
variable {Mu : Addr → Prop}
theorem T2.addn {a b : Nat} : T2 C k Mu (.int a) (.int b) (binaryOp .Add) (.int (a + b : Nat)) := T2.add
theorem T2.addn1 {a : Nat} : T2 C k Mu (.int a) (.int 1) (binaryOp .Add) (.int (a + 1 : Nat)) := T2.add
theorem T2.addn2 {a : Nat} : T2 C k Mu (.int a) (.int 2) (binaryOp .Add) (.int (a + 2 : Nat)) := T2.add
theorem T2.mulk {c n : Nat} (h : n ≤ 8) : T2 C k Mu (.str [c]) (.int n) (binaryOp .Mult) (.str (List.replicate n c)) := T2.mulc (Nat.le_trans h (by decide))
theorem T2.mulk2 {c : Nat} : T2 C k Mu (.str [c]) (.int 2) (binaryOp .Mult) (.str (List.replicate 2 c)) := T2.mulc (n := 2) (by decide)
theorem Sz.lt {a : Nat} {x : List Nat} (h : Sz a x) (q : Nat.ble a 1000000 = true) : x.length < 2 ^ 60 := Nat.lt_of_le_of_lt (Nat.le_trans h.out (Nat.le_of_ble_eq_true q)) (by decide)
theorem T2.toB {d1 d2 : D} {f : Value → Value → Sem Value} {a b : Bool} (h : T2 C k Mu d1 d2 f (.bool a)) (q : a = b) : T2 C k Mu d1 d2 f (.bool b) := q ▸ h
theorem EV.toD {e : Expr} {a b : D} (h : EV C k F ρ e a) (q : a = b) : EV C k F ρ e b := q ▸ h
theorem EV.from1 (H : FOK F) {e lo : Expr} {p pos : Pos} {x : List Nat} (h1 : EV C k F ρ e (.str x)) (hl : EV C k F ρ lo (.int 1)) (hn : x.length ≤ 2 ^ 24) : EV C k F ρ (.Subscript e (.Slice (some lo) none none p) pos) (.str (x.drop 1)) := EV.from (i := 1) H h1 hl hn
end
@[irreducible] noncomputable def Ln {α : Type} (n : Nat) (l : List α) : Prop := l.length ≤ n
theorem Ln.mk {α : Type} {n : Nat} {x : List α} (h : x.length ≤ n) : Ln n x := by unfold Ln; exact h
theorem Ln.out {α : Type} {n : Nat} {x : List α} (h : Ln n x) : x.length ≤ n := by unfold Ln at h; exact h
theorem Ln.lit {α : Type} {x : List α} {n : Nat} (h : Nat.ble x.length n = true) : Ln n x := .mk (Nat.le_of_ble_eq_true h)
theorem Ln.app {α : Type} {a b : Nat} {x y : List α} (h : Ln a x) (h' : Ln b y) : Ln (a + b) (x ++ y) := .mk (by rw [List.length_append]; exact Nat.add_le_add h.out h'.out)
theorem Ln.map {α β : Type} {a : Nat} {f : α → β} {x : List α} (h : Ln a x) : Ln a (x.map f) := .mk (by rw [List.length_map]; exact h.out)
theorem Ln.fil {α : Type} {a : Nat} {f : α → Bool} {x : List α} (h : Ln a x) : Ln a (x.filter f) := .mk (Nat.le_trans (List.length_filter_le _ _) h.out)
theorem Ln.le {α : Type} {a b : Nat} {x : List α} (h : Ln a x) (q : Nat.ble a b = true) : x.length ≤ b := Nat.le_trans h.out (Nat.le_of_ble_eq_true q)
theorem Ln.lt {α : Type} {a : Nat} {x : List α} (h : Ln a x) (q : Nat.ble a 1000000 = true) : x.length < 2 ^ 60 := Nat.lt_of_le_of_lt (Nat.le_trans h.out (Nat.le_of_ble_eq_true q)) (by decide)
theorem Ln.spots {text : List Nat} (h : Sz 1024 text) : Ln 1024 (spotsL text) := .mk (by unfold spotsL; rw [List.length_map, List.length_range]; exact Nat.le_trans (Nat.sub_le _ _) h.out)
section
variable {C : Base} {k : Nat} {Mu : Addr → Prop}
theorem T2.addm {α : Type} {f : α → D} {xs ys : List α} {a b : Nat} (h : Ln a xs) (h' : Ln b ys) (q : Nat.ble (a + b) 16777216 = true) : T2 C k Mu (.list (xs.map f)) (.list (ys.map f)) (binaryOp .Add) (.list ((xs ++ ys).map f)) := by
  rw [List.map_append]
  exact T2.addl (by rw [List.length_map, List.length_map]; exact Nat.le_trans (Nat.add_le_add h.out h'.out) (Nat.le_of_ble_eq_true q))
end
noncomputable def twosL (s t : Nat) : List (Nat × Nat) := [(s, s), (s, t), (t, s), (t, t)]
section
variable (text : List Nat) (k h s t : Nat)
noncomputable def pat1 : List (List Nat) := [[h] ++ dots, ([h] ++ dots) ++ [s], (((dots ++ [h]) ++ dots) ++ [h]) ++ dots, (dots ++ List.replicate k s) ++ dots, (dots ++ List.replicate 2 t) ++ dots]
noncomputable def pat2 : List (List Nat) := [text, text ++ [s], text.drop 1, text.dropLast, text.drop 1 ++ dots, (text.dropLast ++ dots) ++ text.drop 1]
noncomputable def pat3 : List (List Nat) := (twosL s t).map fun p => (((dots ++ [p.1]) ++ dots) ++ [p.2]) ++ dots
noncomputable def pat4 : List (List Nat) := (twosL s t).map fun p => ((dots ++ [p.1]) ++ dots) ++ [p.2]
noncomputable def pat5 : List (List Nat) := (spotsL text).map fun p => (text.take p ++ List.replicate k s) ++ dots
noncomputable def pat6 : List (List Nat) := (spotsL text).map fun p => (text.take p ++ List.replicate 2 t) ++ dots
noncomputable def pats : List (List Nat) := ((((pat1 k h s t ++ pat2 text s) ++ pat3 s t) ++ pat4 s t) ++ pat5 text k s) ++ pat6 text t
noncomputable def due1 : List Bool := [true, [text.getLastD 0] == [s], false, Txt.contains (mkS text) (mkS (List.replicate k s)), Txt.contains (mkS text) (mkS (List.replicate 2 t))]
noncomputable def due2 : List Bool := [true, false, false, false, ((text.length : Int) == 1), decide ((text.length : Int) < 3)]
noncomputable def due3 : List Bool := (twosL s t).map fun p => decide (p.1 ∈ text) && decide (p.2 ∈ text.drop (text.idxOf p.1 + 1))
noncomputable def due4 : List Bool := (twosL s t).map fun p => ([text.getLastD 0] == [p.2]) && decide (p.1 ∈ text.dropLast)
noncomputable def due5 : List Bool := (spotsL text).map fun p => (text.drop p).take (p + k - p) == List.replicate k s
noncomputable def due6 : List Bool := (spotsL text).map fun p => (text.drop p).take (p + 2 - p) == List.replicate 2 t
noncomputable def dues : List Bool := ((((due1 text k s t ++ due2 text) ++ due3 text s t) ++ due4 text s t) ++ due5 text k s) ++ due6 text t
noncomputable def after1 : List (List Nat) := [text, text ++ text.drop 1] ++ (if [text.getLastD 0] == [s] then [text ++ [t]] else [])
noncomputable def after2 : List (List Nat) := ((spotsL text).filter fun p => (text.drop p).take (p + k - p) == List.replicate k s).map fun p => (text.take p ++ [t]) ++ text.drop (p + k)
noncomputable def after3 : List (List Nat) := ((spotsL text).filter fun p => (text.drop p).take (p + 2 - p) == List.replicate 2 t).map fun p => text.take p ++ text.drop (p + 2)
noncomputable def afters : List (List Nat) := (after1 text s t ++ after2 text k s t) ++ after3 text t
end
local macro_rules | `(tactic| walk_at "sz") => `(tactic| first
  | assumption | exact Sz.one | exact Sz.dots | exact Sz.nil | exact Sz.rep2 | exact Sz.rep (by assumption)
  | (refine' Sz.app ?h1 ?h2; (case h1 => walk_at "sz"); (case h2 => walk_at "sz"))
  | (refine' Sz.drop ?h1; (case h1 => walk_at "sz"))
  | (refine' Sz.take ?h1; (case h1 => walk_at "sz"))
  | (refine' Sz.init ?h1; (case h1 => walk_at "sz")))
local macro_rules | `(tactic| walk_at "szl") => `(tactic| exact Sz.le (by walk_at "sz") rfl)
local macro_rules | `(tactic| walk_at "op2") => `(tactic| first
  | (refine' T2.addz ?z1 ?z2 ?z3; (case z1 => walk_at "sz"); (case z2 => walk_at "sz"); (case z3 => exact rfl))
  | exact T2.mulk (by assumption) | exact T2.mulk2 | exact T2.inc | exact T2.addn | exact T2.addn1 | exact T2.addn2 | exact T2.ini)
local macro_rules | `(tactic| walk_at "kd") => `(tactic| exact IC.kdG (by assumption) (by decide +kernel))
local macro_rules | `(tactic| walk_at "ev") => `(tactic| first
  | (refine' EV.and2 (by assumption) ?e1 ?e2; (case e1 => walk_at "ev"); (case e2 => (intro _; walk_at "ev")))
  | (refine' EV.callB (by assumption) ?kd (List.Mem.head _) ?es (TL.lens ?hl); (case kd => walk_at "kd"); (case es => walk_at "evs"); (case hl => exact Sz.lt (by walk_at "sz") rfl))
  | (refine' EV.from1 (by assumption) ?e1 ?e2 ?hn; (case e1 => walk_at "ev"); (case e2 => walk_at "ev"); (case hn => walk_at "szl"))
  | (refine' EV.init (by assumption) ?e1 ?e2 ?hn; (case e1 => walk_at "ev"); (case e2 => walk_at "ev"); (case hn => walk_at "szl"))
  | (refine' EV.to (by assumption) ?e1 ?e2 ?hn; (case e1 => walk_at "ev"); (case e2 => walk_at "ev"); (case hn => walk_at "szl"))
  | (refine' EV.ft (by assumption) ?e1 ?e2 ?e3 ?hn; (case e1 => walk_at "ev"); (case e2 => walk_at "ev"); (case e3 => walk_at "ev"); (case hn => walk_at "szl"))
  | (refine' EV.from (by assumption) ?e1 ?e2 ?hn; (case e1 => walk_at "ev"); (case e2 => walk_at "ev"); (case hn => walk_at "szl"))
  | (refine' EV.item (T := "str") (by assumption) ?e1 ?e2 (T2.lastS ?h1 ?hn) rfl; (case e1 => walk_at "ev"); (case e2 => walk_at "ev"); (case h1 => assumption); (case hn => exact Sz.lt (by walk_at "sz") rfl)))
section
variable {C : Base} {j : Nat} {Mu : Addr → Prop}
theorem len6' {α : Type} {vs : List α} (h : vs.length = 6) : ∃ a b c d e f, vs = [a, b, c, d, e, f] := by
  match vs, h with
  | [a, b, c, d, e, f], _ => exact ⟨a, b, c, d, e, f, rfl⟩
theorem map_app3 {α : Type} {f : α → D} {a b c : List α} : (a.map f ++ b.map f) ++ c.map f = ((a ++ b) ++ c).map f := by rw [List.map_append, List.map_append]
noncomputable abbrev keptR (text : List Nat) (k h s t : Nat) (rs : List Int) : Rho := [("twos", .list ((twosL s t).map fun p => .tup [.str [p.1], .str [p.2]])), ("spots", .rng 1 (text.length : Nat) 1), ("count", .int (text.count s : Nat)), ("text", .str text), ("k", .int k), ("head", .str [h]), ("stroke", .str [s]), ("knot", .str [t]), ("rests", .list (rs.map .int))]
theorem bits_nat {n m : Nat} (h : n < 2 ^ m) : Builtin.Int.intBits (n : Int) ≤ m := bits_le (Int.natCast_nonneg n) (by exact_mod_cast h)
theorem noPy {a : Int} {k : Nat} (hk : k ≤ 8) (q : Int) (hq : q.natAbs = k) : Builtin.divisionGoesByPylong a q = false := by
  refine PyProof.noPylong_of_log2 ?_
  rw [hq]
  have : k.log2 ≤ k := Nat.log2_le_self k
  omega
theorem pats_len {text : List Nat} {k h s t : Nat} (hs : Sz 1024 text) (hk : k ≤ 8) : ∀ p ∈ pats text k h s t, p.length < 2 ^ 18 := by
  have hl := hs.out
  have one : ∀ (l : List (List Nat)), (∀ p ∈ l, p.length < 2 ^ 18) → ∀ (m : List (List Nat)), (∀ p ∈ m, p.length < 2 ^ 18) → ∀ p ∈ l ++ m, p.length < 2 ^ 18 := fun l h m h' p hp => (List.mem_append.mp hp).elim (h p) (h' p)
  refine one _ (one _ (one _ (one _ (one _ ?_ _ ?_) _ ?_) _ ?_) _ ?_) _ ?_
  · intro p hp; unfold pat1 at hp; simp at hp; rcases hp with rfl | rfl | rfl | rfl | rfl <;> simp <;> omega
  · intro p hp; unfold pat2 at hp; simp at hp; rcases hp with rfl | rfl | rfl | rfl | rfl | rfl <;> simp <;> omega
  · intro p hp; unfold pat3 at hp; obtain ⟨a, _, rfl⟩ := List.mem_map.mp hp; simp
  · intro p hp; unfold pat4 at hp; obtain ⟨a, _, rfl⟩ := List.mem_map.mp hp; simp
  · intro p hp; unfold pat5 at hp; obtain ⟨a, _, rfl⟩ := List.mem_map.mp hp; simp; omega
  · intro p hp; unfold pat6 at hp; obtain ⟨a, _, rfl⟩ := List.mem_map.mp hp; simp; omega
theorem afters_len {text : List Nat} {k s t : Nat} (hs : Sz 1024 text) : ∀ p ∈ afters text k s t, p.length < 2 ^ 12 := by
  have hl := hs.out
  intro p hp
  unfold afters at hp
  rcases List.mem_append.mp hp with hp | hp
  · rcases List.mem_append.mp hp with hp | hp
    · unfold after1 at hp
      rcases List.mem_append.mp hp with hp | hp
      · simp at hp; rcases hp with rfl | rfl <;> simp <;> omega
      · split at hp
        · rw [List.mem_singleton.mp hp]; simp; omega
        · cases hp
    · unfold after2 at hp; obtain ⟨a, _, rfl⟩ := List.mem_map.mp hp; simp; omega
  · unfold after3 at hp; obtain ⟨a, _, rfl⟩ := List.mem_map.mp hp; simp; omega
set_option maxHeartbeats 4000000 in
theorem kept_spec (G : PG C) {text : List Nat} {k h s t : Nat} {rs : List Int} {v : Bool} (h0 : text ≠ []) (hs : Sz 1024 text) (hk : k ≤ 8) (hk1 : 3 ≤ k)
    (hE : (pats text k h s t).map (fun p => em p text) = dues text k s t) (hV : ∀ one ∈ afters text k s t, rs.contains ((((one.count s : Nat) : Int)).fmod k) = v) :
    TL C 22 Mu [.str text, .int k, .str [h], .str [s], .str [t], .list (rs.map .int)] (fun vs => call (.ref 106) vs) (.bool v) := by
  refine TL.defPC G (n := 70) (cd := 105) (names := ["text", "k", "head", "stroke", "knot", "rests"]) (by decide) (fun pm vs hv => by obtain ⟨a, b, c, d, e, f, rfl⟩ := len6' hv; kernel_rfl) (by decide +kernel) rfl ?_
  intro prog A F h₀ hsc hcode hqual M H hcs hA
  have hlen : text.length < 2 ^ 20 := Nat.lt_of_le_of_lt hs.out (by decide)
  refine XS.asgS (names := ["spots", "count"]) (ds := [.rng 1 (text.length : Nat) 1, .int (text.count s : Nat)]) H hA (EV.tup H (EVs.cons H (EV.callT H (by walk_at "kd") (by walk_at "mem") (by walk_at "evs") TL.range2) (EVs.cons H (EV.meth H (by walk_at "ev") GetM.count (by walk_at "evs") TL.countc) EVs.nil)) (Nat.le_of_ble_eq_true rfl)) rfl (fun n hn => ?nk) (by decide +kernel) (sub_notin (by kernel_rfl)) ?_ (swA hsc fun L g c q f cd fr b => by kernel_rfl) (swB hsc fun L g c q f cd fr b => by kernel_rfl)
  case nk =>
    rcases List.mem_cons.mp hn with rfl | hn
    · walk_at "kd"
    · rw [List.mem_singleton.mp hn]; walk_at "kd"
  refine XS.asgC (out := (twosL s t).map fun p => .tup [.str [p.1], .str [p.2]]) H hA (SrcE.tuple (by walk_at "ev")) (Sees.of (ρc := [("stroke", .str [s]), ("knot", .str [t])]) hsc hcs (by decide +kernel) (by decide +kernel) (by kernel_rfl) (by walk_at "sub")) (Nat.le_of_ble_eq_true rfl) (fun F₂ IC => CL.two (fun c => .str [c]) [s, t] (fun c => .str [c]) (fun _ => [s, t]) (fun a b => .tup [.str [a], .str [b]]) IC (by decide +kernel) (by decide +kernel) (by decide +kernel) (by kernel_rfl) (by kernel_rfl) (fun a _ F₃ IC₃ H₃ => SrcE.tuple (by walk_at "ev")) (fun _ _ _ => rfl) (fun a _ b _ F₃ IC₃ H₃ => by walk_at "ev")) (by walk_at "kd") (by walk_at "ne") ?_ (swC hsc fun L g c q f cd fr b => by kernel_rfl)
  refine XS.weaken (ρ' := keptR text k h s t rs) ?_ (by walk_at "sub")
  have hsp := Ln.spots hs
  refine XS.asg (d := .list ((pat1 k h s t).map .str)) H hA (by walk_at "ev") (by walk_at "kd") (by walk_at "ne") ?_
  refine XS.asg (d := .list ((due1 text k s t).map .bool)) H hA (by walk_at "ev") (by walk_at "kd") (by walk_at "ne") ?_
  refine XS.asgW (d := .list ((pat1 k h s t ++ pat2 text s).map .str)) (ρ₀ := ("due", .list ((due1 text k s t).map .bool)) :: keptR text k h s t rs) H hA (EV.bin H (by walk_at "ev") (d2 := .list ((pat2 text s).map .str)) (by walk_at "ev") (T2.addm (a := 5) (b := 6) (Ln.lit rfl) (Ln.lit rfl) rfl)) (by walk_at "kd") (by walk_at "subne") ?_
  have L12 : Ln 11 (pat1 k h s t ++ pat2 text s) := Ln.lit rfl
  generalize hp2 : pat1 k h s t ++ pat2 text s = p2 at L12
  refine XS.asgW (d := .list ((due1 text k s t ++ due2 text).map .bool)) (ρ₀ := ("patterns", .list (p2.map .str)) :: keptR text k h s t rs) H hA (EV.bin H (by walk_at "ev") (d2 := .list ((due2 text).map .bool)) (by walk_at "ev") (T2.addm (a := 5) (b := 6) (Ln.lit rfl) (Ln.lit rfl) rfl)) (by walk_at "kd") (by walk_at "subne") ?_
  have M12 : Ln 11 (due1 text k s t ++ due2 text) := Ln.lit rfl
  generalize hd2 : due1 text k s t ++ due2 text = d2 at M12
  have tw : ∀ {F₂ : Fn} {ρ : Rho} (pt : Expr) (e : Expr), EV C 21 F₂ ρ e (.list ((twosL s t).map fun p => .tup [.str [p.1], .str [p.2]])) → SrcE C 21 F₂ ρ e pt ((twosL s t).map fun p => .tup [.str [p.1], .str [p.2]]) := fun _ _ h => SrcE.list h
  refine XS.asgW (d := .list (((p2 ++ pat3 s t) ++ pat4 s t).map .str)) (ρ₀ := ("due", .list (d2.map .bool)) :: keptR text k h s t rs) H hA (EV.bin H (EV.bin H (by walk_at "ev")
      (EV.toL (b := (pat3 s t).map .str) (EV.lcomp H (tw _ _ (by walk_at "ev")) (Sees.of (ρc := []) hsc hcs (by decide +kernel) (by decide +kernel) (by kernel_rfl) sub_nil) (Nat.le_of_ble_eq_true rfl)
        fun F₂ IC => CL.allp (fun p => .str [p.1]) (fun p => .str [p.2]) (twosL s t) (fun p => .str ((((dots ++ [p.1]) ++ dots) ++ [p.2]) ++ dots)) IC (by decide +kernel) (by decide +kernel) (by decide +kernel) rfl rfl fun p _ F₃ IC₃ H₃ => by walk_at "ev") rfl) (T2.addm (a := 11) (b := 4) L12 (Ln.lit rfl) rfl))
      (EV.toL (b := (pat4 s t).map .str) (EV.lcomp H (tw _ _ (by walk_at "ev")) (Sees.of (ρc := []) hsc hcs (by decide +kernel) (by decide +kernel) (by kernel_rfl) sub_nil) (Nat.le_of_ble_eq_true rfl)
        fun F₂ IC => CL.allp (fun p => .str [p.1]) (fun p => .str [p.2]) (twosL s t) (fun p => .str (((dots ++ [p.1]) ++ dots) ++ [p.2])) IC (by decide +kernel) (by decide +kernel) (by decide +kernel) rfl rfl fun p _ F₃ IC₃ H₃ => by walk_at "ev") rfl) (T2.addm (a := 15) (b := 4) (L12.app (b := 4) (Ln.lit rfl)) (Ln.lit rfl) rfl)) (by walk_at "kd") (by walk_at "subne") ?_
  have L14 : Ln 19 ((p2 ++ pat3 s t) ++ pat4 s t) := (L12.app (b := 4) (Ln.lit rfl)).app (b := 4) (Ln.lit rfl)
  generalize hp4 : (p2 ++ pat3 s t) ++ pat4 s t = p4 at L14
  refine XS.asgW (d := .list (((d2 ++ due3 text s t) ++ due4 text s t).map .bool)) (ρ₀ := ("patterns", .list (p4.map .str)) :: keptR text k h s t rs) H hA (EV.bin H (EV.bin H (by walk_at "ev")
      (EV.toL (b := (due3 text s t).map .bool) (EV.lcomp H (tw _ _ (by walk_at "ev")) (Sees.of (ρc := [("text", .str text)]) hsc hcs (by decide +kernel) (by decide +kernel) (by kernel_rfl) (by walk_at "sub")) (Nat.le_of_ble_eq_true rfl)
        fun F₂ IC => CL.allp (fun p => .str [p.1]) (fun p => .str [p.2]) (twosL s t) (fun p => .bool (decide (p.1 ∈ text) && decide (p.2 ∈ text.drop (text.idxOf p.1 + 1)))) IC (by decide +kernel) (by decide +kernel) (by decide +kernel) (by kernel_rfl) (by kernel_rfl) fun p _ F₃ IC₃ H₃ => EV.and2 H₃ (by walk_at "ev") (fun hb => EV.cmp H₃ (by walk_at "ev") (EV.from H₃ (by walk_at "ev") (EV.bin H₃ (EV.meth H₃ (by walk_at "ev") GetM.find (by walk_at "evs") (TL.findc (of_decide_eq_true hb))) (EV.int 1) T2.addn1) (by walk_at "szl")) T2.inc)) rfl) (T2.addm (a := 11) (b := 4) M12 (Ln.lit rfl) rfl))
      (EV.toL (b := (due4 text s t).map .bool) (EV.lcomp H (tw _ _ (by walk_at "ev")) (Sees.of (ρc := [("text", .str text)]) hsc hcs (by decide +kernel) (by decide +kernel) (by kernel_rfl) (by walk_at "sub")) (Nat.le_of_ble_eq_true rfl)
        fun F₂ IC => CL.allp (fun p => .str [p.1]) (fun p => .str [p.2]) (twosL s t) (fun p => .bool (([text.getLastD 0] == [p.2]) && decide (p.1 ∈ text.dropLast))) IC (by decide +kernel) (by decide +kernel) (by decide +kernel) (by kernel_rfl) (by kernel_rfl) fun p _ F₃ IC₃ H₃ => by walk_at "ev") rfl) (T2.addm (a := 15) (b := 4) (M12.app (b := 4) (Ln.lit rfl)) (Ln.lit rfl) rfl)) (by walk_at "kd") (by walk_at "subne") ?_
  have M14 : Ln 19 ((d2 ++ due3 text s t) ++ due4 text s t) := (M12.app (b := 4) (Ln.lit rfl)).app (b := 4) (Ln.lit rfl)
  generalize hd4 : (d2 ++ due3 text s t) ++ due4 text s t = d4 at M14
  refine XS.asgW (d := .list (((p4 ++ pat5 text k s) ++ pat6 text t).map .str)) (ρ₀ := ("due", .list (d4.map .bool)) :: keptR text k h s t rs) H hA (EV.bin H (EV.bin H (by walk_at "ev")
      (EV.toL (b := (pat5 text k s).map .str) (EV.lcomp H (SrcE.spots h0 hlen (by walk_at "ev")) (Sees.of (ρc := [("text", .str text), ("stroke", .str [s]), ("k", .int k)]) hsc hcs (by decide +kernel) (by decide +kernel) (by kernel_rfl) (by walk_at "sub")) (Ln.map hsp |>.le rfl)
        fun F₂ IC => CL.all (fun p => .int (p : Nat)) (spotsL text) (fun p => .str ((text.take p ++ List.replicate k s) ++ dots)) IC (by decide +kernel) (by kernel_rfl) fun p _ F₃ IC₃ H₃ => by walk_at "ev") (by unfold pat5; rw [List.map_map]; rfl)) (T2.addm L14 (Ln.map hsp) rfl))
      (EV.toL (b := (pat6 text t).map .str) (EV.lcomp H (SrcE.spots h0 hlen (by walk_at "ev")) (Sees.of (ρc := [("text", .str text), ("knot", .str [t])]) hsc hcs (by decide +kernel) (by decide +kernel) (by kernel_rfl) (by walk_at "sub")) (Ln.map hsp |>.le rfl)
        fun F₂ IC => CL.all (fun p => .int (p : Nat)) (spotsL text) (fun p => .str ((text.take p ++ List.replicate 2 t) ++ dots)) IC (by decide +kernel) (by kernel_rfl) fun p _ F₃ IC₃ H₃ => by walk_at "ev") (by unfold pat6; rw [List.map_map]; rfl)) (T2.addm (L14.app (Ln.map hsp)) (Ln.map hsp) rfl)) (by walk_at "kd") (by walk_at "subne") ?_
  have hpt : (p4 ++ pat5 text k s) ++ pat6 text t = pats text k h s t := by unfold pats; rw [hp2, hp4]
  rw [hpt]
  refine XS.asgW (d := .list (((d4 ++ due5 text k s) ++ due6 text t).map .bool)) (ρ₀ := ("patterns", .list ((pats text k h s t).map .str)) :: keptR text k h s t rs) H hA (EV.bin H (EV.bin H (by walk_at "ev")
      (EV.toL (b := (due5 text k s).map .bool) (EV.lcomp H (SrcE.spots h0 hlen (by walk_at "ev")) (Sees.of (ρc := [("text", .str text), ("stroke", .str [s]), ("k", .int k)]) hsc hcs (by decide +kernel) (by decide +kernel) (by kernel_rfl) (by walk_at "sub")) (Ln.map hsp |>.le rfl)
        fun F₂ IC => CL.all (fun p => .int (p : Nat)) (spotsL text) (fun p => .bool ((text.drop p).take (p + k - p) == List.replicate k s)) IC (by decide +kernel) (by kernel_rfl) fun p _ F₃ IC₃ H₃ => by walk_at "ev") (by unfold due5; rw [List.map_map]; rfl)) (T2.addm M14 (Ln.map hsp) rfl))
      (EV.toL (b := (due6 text t).map .bool) (EV.lcomp H (SrcE.spots h0 hlen (by walk_at "ev")) (Sees.of (ρc := [("text", .str text), ("knot", .str [t])]) hsc hcs (by decide +kernel) (by decide +kernel) (by kernel_rfl) (by walk_at "sub")) (Ln.map hsp |>.le rfl)
        fun F₂ IC => CL.all (fun p => .int (p : Nat)) (spotsL text) (fun p => .bool ((text.drop p).take (p + 2 - p) == List.replicate 2 t)) IC (by decide +kernel) (by kernel_rfl) fun p _ F₃ IC₃ H₃ => by walk_at "ev") (by unfold due6; rw [List.map_map]; rfl)) (T2.addm (M14.app (Ln.map hsp)) (Ln.map hsp) rfl)) (by walk_at "kd") (by walk_at "subne") ?_
  have hdt : (d4 ++ due5 text k s) ++ due6 text t = dues text k s t := by unfold dues; rw [hd2, hd4]
  rw [hdt]
  have hpl := pats_len (h := h) (s := s) (t := t) hs hk
  have lnP : Ln 4096 (pats text k h s t) := by rw [← hpt]; exact ((L14.app (Ln.map hsp)).app (Ln.map hsp)).le (b := 4096) rfl |> Ln.mk
  have lnD : Ln 4096 (dues text k s t) := by rw [← hdt]; exact ((M14.app (Ln.map hsp)).app (Ln.map hsp)).le (b := 4096) rfl |> Ln.mk
  generalize pats text k h s t = P at hE hpl lnP
  have hE' : P.map (fun p => D.bool (em p text)) = (dues text k s t).map .bool := by rw [← hE, List.map_map]; rfl
  generalize dues text k s t = B at lnD hE'
  refine XS.asgC (out := B.map .bool) H hA (SrcE.list (by walk_at "ev")) (Sees.of (ρc := [("text", .str text)]) hsc hcs (by decide +kernel) (by decide +kernel) (by kernel_rfl) (by walk_at "sub")) (Ln.map lnD |>.le rfl) (fun F₂ IC => hE' ▸ CL.all (fun p => .str p) P (fun p => .bool (em p text)) IC (by decide +kernel) (by kernel_rfl) fun p hp F₃ IC₃ H₃ => EV.callF H₃ (by walk_at "kd") (G.mg ("_ellipsis_match", 21) (by decide)) (G.fd (21, 2, 20) (by decide)).choose_spec (by walk_at "evs") (em_spec G (hpl p hp) hlen)) (by walk_at "kd") (by walk_at "ne") ?_ (swC hsc fun L g c q f cd fr b => by kernel_rfl)
  have cB : Cmp (.list (B.map D.bool)) := (CN.list (n := 0) (CN.map fun b _ => CN.bool b)).cmp
  refine XS.iff (b := (false || false)) H hA (TT.or2 H
      (TT.cmp H (EV.toL (b := B.map .bool) (EV.lcomp H (SrcE.list (by walk_at "ev")) (Sees.of (ρc := []) hsc hcs (by decide +kernel) (by decide +kernel) (by kernel_rfl) sub_nil) (Ln.map lnD |>.le rfl)
        fun F₂ IC => CL.all (fun b => .bool b) B (fun b => .bool (b == true)) IC (by decide +kernel) (by kernel_rfl) fun b hb F₃ IC₃ H₃ => by walk_at "ev") (List.map_congr_left fun b _ => by cases b <;> rfl)) (by walk_at "ev") (T2.ner cB))
      (fun _ => TT.cmp H (EV.toL (b := B.map .bool) (EV.lcomp H (SrcE.list (by walk_at "ev")) (Sees.of (ρc := []) hsc hcs (by decide +kernel) (by decide +kernel) (by kernel_rfl) sub_nil) (Ln.map lnD |>.le rfl)
        fun F₂ IC => CL.all (fun b => .bool b) B (fun b => .bool (b != false)) IC (by decide +kernel) (by kernel_rfl) fun b hb F₃ IC₃ H₃ => by walk_at "ev") (List.map_congr_left fun b _ => by cases b <;> rfl)) (by walk_at "ev") (T2.ner cB))) (fun hb => absurd hb (by decide)) (fun _ => ?_)
  refine XS.thenn (ρ' := keptR text k h s t rs) ?_ (by walk_at "sub")
  clear hE' hpl lnP lnD hp2 hd2 hp4 hd4 hpt hdt cB L12 M12 L14 M14
  have hcnt : text.count s < 2 ^ 12 := Nat.lt_of_le_of_lt List.count_le_length (Nat.lt_of_le_of_lt hs.out (by decide))
  have hbk : Builtin.Int.intBits (k : Int) ≤ 12 := bits_nat (by omega)
  have hbc : Builtin.Int.intBits ((text.count s : Nat) : Int) ≤ 12 := bits_nat hcnt
  have hk0 : (k : Int) ≠ 0 := by omega
  have hk0' : -(k : Int) ≠ 0 := by omega
  have py : ∀ a : Int, Builtin.divisionGoesByPylong a k = false := fun a => noPy hk _ rfl
  have py' : ∀ a : Int, Builtin.divisionGoesByPylong a (-(k : Int)) = false := fun a => noPy hk _ (by omega)
  have idm : ∀ {F₂ : Fn} {ρ : Rho} {a b : Int} {e1 e2 : Expr} {p pos : Pos}, FOK F₂ → F₂.env.kindOf "int_divmod" = some .globalImplicit → b ≠ 0 → Builtin.Int.intBits b ≤ 12 → Builtin.Int.intBits a ≤ 13 → EVs C 21 F₂ ρ [e1, e2] [.int a, .int b] → starEach [e1, e2] F₂.env = (false, eval e1 F₂.env) :: starEach [e2] F₂.env → EV C 21 F₂ ρ (.Call (.Name "int_divmod" p) [e1, e2] [] pos) (.tup [.int (a.fdiv b), .int (a.fmod b)]) :=
    fun H₂ hk hb h1 h2 h3 h4 => EV.callF H₂ hk (G.mg ("int_divmod", 63) (by decide)) (G.fd (63, 10, 62) (by decide)).choose_spec h3 ((int_divmod_spec G hb (Nat.le_trans h1 (by decide)) (Nat.le_trans h2 (by decide))).mono (by decide)) h4
  refine XS.asg (d := .list [.tup [.int (((text.count s : Nat) : Int).fdiv k), .int (((text.count s : Nat) : Int).fmod k)], .tup [.int ((-((text.count s : Nat) : Int)).fdiv k), .int ((-((text.count s : Nat) : Int)).fmod k)], .tup [.int (((text.count s : Nat) : Int).fdiv (-k)), .int (((text.count s : Nat) : Int).fmod (-k))]]) H hA (EV.lst H
      (EVs.cons H (idm H (by walk_at "kd") hk0 hbk (Nat.le_trans hbc (by decide)) (by walk_at "evs") rfl)
      (EVs.cons H (idm H (by walk_at "kd") hk0 hbk (Nat.le_trans (intBits_neg_le hbc) (by decide)) (by walk_at "evs") rfl)
      (EVs.cons H (idm H (by walk_at "kd") hk0' (intBits_neg_le hbk) (Nat.le_trans hbc (by decide)) (by walk_at "evs") rfl) EVs.nil))) (Nat.le_of_ble_eq_true rfl)) (by walk_at "kd") (by walk_at "ne") ?_
  refine XS.iff (b := false) H hA (TT.cmp H (by walk_at "ev") (EV.lst H
      (EVs.cons H (EV.tup H (EVs.cons H (EV.bin H (by walk_at "ev") (by walk_at "ev") (T2.fdiv hk0 (py _))) (EVs.cons H (EV.bin H (by walk_at "ev") (by walk_at "ev") (T2.fmod hk0)) EVs.nil)) (Nat.le_of_ble_eq_true rfl))
      (EVs.cons H (EV.tup H (EVs.cons H (EV.bin H (by walk_at "ev") (by walk_at "ev") (T2.fdiv hk0 (py _))) (EVs.cons H (EV.bin H (by walk_at "ev") (by walk_at "ev") (T2.fmod hk0)) EVs.nil)) (Nat.le_of_ble_eq_true rfl))
      (EVs.cons H (EV.tup H (EVs.cons H (EV.bin H (by walk_at "ev") (by walk_at "ev") (T2.fdiv hk0' (py' _))) (EVs.cons H (EV.bin H (by walk_at "ev") (by walk_at "ev") (T2.fmod hk0')) EVs.nil)) (Nat.le_of_ble_eq_true rfl)) EVs.nil))) (Nat.le_of_ble_eq_true rfl))
      (T2.ner (CN.list (n := 1) (CN.cons (CN.tup (n := 0) (CN.cons (CN.int _) (CN.cons (CN.int _) CN.nil))) (CN.cons (CN.tup (n := 0) (CN.cons (CN.int _) (CN.cons (CN.int _) CN.nil))) (CN.cons (CN.tup (n := 0) (CN.cons (CN.int _) (CN.cons (CN.int _) CN.nil))) CN.nil)))).cmp)) (fun hb => absurd hb (by decide)) (fun _ => ?_)
  refine XS.thenn (ρ' := keptR text k h s t rs) ?_ (by walk_at "sub")
  have la1 : Ln 3 (after1 text s t) := .mk (by unfold after1; split <;> exact Nat.le_of_ble_eq_true rfl)
  refine XS.asg (d := .list ((after1 text s t).map .str)) H hA (EV.bin H (d1 := .list ([text, text ++ text.drop 1].map .str)) (d2 := .list ((if [text.getLastD 0] == [s] then [text ++ [t]] else []).map .str)) (by walk_at "ev")
      (EV.ifx H (b := [text.getLastD 0] == [s]) (by walk_at "tt") (fun hb => by rw [if_pos hb]; walk_at "ev") (fun hb => by rw [if_neg (by rw [hb]; decide)]; walk_at "ev")) (T2.addm (a := 2) (b := 1) (Ln.lit rfl) (.mk (by split <;> exact Nat.le_of_ble_eq_true rfl)) rfl)) (by walk_at "kd") (by walk_at "ne") ?_
  refine XS.asgW (d := .list ((after1 text s t ++ after2 text k s t).map .str)) (ρ₀ := keptR text k h s t rs) H hA (EV.bin H (by walk_at "ev")
      (EV.toL (b := (after2 text k s t).map .str) (EV.lcomp H (SrcE.spots h0 hlen (by walk_at "ev")) (Sees.of (ρc := [("text", .str text), ("stroke", .str [s]), ("knot", .str [t]), ("k", .int k)]) hsc hcs (by decide +kernel) (by decide +kernel) (by kernel_rfl) (by walk_at "sub")) (Ln.map (Ln.fil hsp) |>.le rfl)
        fun F₂ IC => CL.one (fun p => .int (p : Nat)) (spotsL text) (fun p => (text.drop p).take (p + k - p) == List.replicate k s) (fun p => .str ((text.take p ++ [t]) ++ text.drop (p + k))) IC (by decide +kernel) (by kernel_rfl) (fun p _ F₃ IC₃ H₃ => Ifs.one (by walk_at "tt")) fun p _ _ F₃ IC₃ H₃ => by walk_at "ev") (by unfold after2; rw [List.map_map]; rfl)) (T2.addm la1 (Ln.map (Ln.fil hsp)) rfl)) (by walk_at "kd") (by walk_at "subne") ?_
  refine XS.asgW (d := .list ((afters text k s t).map .str)) (ρ₀ := keptR text k h s t rs) H hA (EV.bin H (by walk_at "ev")
      (EV.toL (b := (after3 text t).map .str) (EV.lcomp H (SrcE.spots h0 hlen (by walk_at "ev")) (Sees.of (ρc := [("text", .str text), ("knot", .str [t])]) hsc hcs (by decide +kernel) (by decide +kernel) (by kernel_rfl) (by walk_at "sub")) (Ln.map (Ln.fil hsp) |>.le rfl)
        fun F₂ IC => CL.one (fun p => .int (p : Nat)) (spotsL text) (fun p => (text.drop p).take (p + 2 - p) == List.replicate 2 t) (fun p => .str (text.take p ++ text.drop (p + 2))) IC (by decide +kernel) (by kernel_rfl) (fun p _ F₃ IC₃ H₃ => Ifs.one (by walk_at "tt")) fun p _ _ F₃ IC₃ H₃ => by walk_at "ev") (by unfold after3; rw [List.map_map]; rfl)) (T2.addm (la1.app (Ln.map (Ln.fil hsp))) (Ln.map (Ln.fil hsp)) rfl)) (by walk_at "kd") (by walk_at "subne") ?_
  have lnA : Ln 4096 (afters text k s t) := Ln.mk (((la1.app (Ln.map (Ln.fil hsp))).app (Ln.map (Ln.fil hsp))).le (b := 4096) rfl)
  have hal := afters_len (k := k) (s := s) (t := t) hs
  have hne : afters text k s t ≠ [] := by unfold afters after1; simp
  generalize afters text k s t = AA at hV lnA hal hne
  refine XS.asgC (out := AA.map fun _ => .bool v) H hA (SrcE.list (by walk_at "ev")) (Sees.of (ρc := [("stroke", .str [s]), ("k", .int k), ("rests", .list (rs.map .int))]) hsc hcs (by decide +kernel) (by decide +kernel) (by kernel_rfl) (by walk_at "sub")) (Ln.map lnA |>.le rfl) (fun F₂ IC => CL.all (fun p => .str p) AA (fun _ => .bool v) IC (by decide +kernel) (by kernel_rfl) fun p hp F₃ IC₃ H₃ => EV.cmp H₃ (EV.item (T := "tuple") H₃ (idm H₃ (by walk_at "kd") hk0 hbk (Nat.le_trans (bits_nat (Nat.lt_of_le_of_lt List.count_le_length (hal p hp))) (by decide)) (EVs.cons H₃ (EV.meth H₃ (by walk_at "ev") GetM.count (by walk_at "evs") TL.countc) (by walk_at "evs")) rfl) (EV.int 1) (T2.idxt (by decide) (by decide) rfl) rfl) (by walk_at "ev") (T2.toB T2.ini (hV p hp))) (by walk_at "kd") (by walk_at "ne") ?_ (swC hsc fun L g c q f cd fr b => by kernel_rfl)
  have hrep : (AA.map fun _ => D.bool v) = List.replicate AA.length (.bool v) := by rw [List.map_const']
  rw [hrep]
  have hpos : 0 < AA.length := List.length_pos_iff.mpr hne
  have lnA' := lnA.out
  refine XS.ret (d := .bool v) H hA (EV.ifx H (b := true) (TT.cmp H (by walk_at "ev") (EV.toL (b := List.replicate AA.length (.bool v)) (EV.bin H (d1 := .list [.bool v]) (d2 := .int (AA.length : Nat)) (EV.lst H (EVs.cons H (EV.item (T := "list") H (by walk_at "ev") (EV.int 0) (T2.idxl (by decide) (by decide) (List.getElem?_replicate_of_lt (by exact hpos))) rfl) EVs.nil) (Nat.le_of_ble_eq_true rfl)) (EV.toI (EV.callB H (by walk_at "kd") (List.Mem.head _) (by walk_at "evs") (TL.lenl (by rw [List.length_replicate]; omega))) (by rw [List.length_replicate])) (T2.mull (by omega) (by omega) (by simp; omega))) (by rw [Int.toNat_natCast, List.flatten_replicate_singleton])) (T2.eqr (CN.list (n := 0) (fun d hd => by rw [List.eq_of_mem_replicate hd]; exact CN.bool _)).cmp))
      (fun _ => EV.item (T := "list") H (by walk_at "ev") (EV.int 0) (T2.idxl (by decide) (by decide) (List.getElem?_replicate_of_lt (by exact hpos))) rfl) (fun hb => absurd hb (by decide))) Ret.of
end
noncomputable def stepA (m q n : Nat) : List Int := ((List.replicate m [(0 : Int), 257]).flatten ++ (List.replicate (q / 2) [(1 : Int), 258, 2, 258, 1, 259]).flatten) ++ (if q % 2 = 1 then [0, 256, 1 + (n : Int), 258, 1 + (n : Int), 259] else [])
noncomputable def stepK (text : List Nat) (t p : Nat) : List Int := if [text.getD p 0] == [t] then [(p : Int), 258] else []
noncomputable def stepsL (text : List Nat) (t n m q : Nat) : List Int := stepA m q n ++ (spotsL text).flatMap (stepK text t)
noncomputable def stepAt (text : List Nat) (t n m q i : Nat) : List Int := stepA m q n ++ ((spotsL text).take i).flatMap (stepK text t)
theorem stepAt_succ {text : List Nat} {t n m q i p : Nat} (h : (spotsL text)[i]? = some p) : stepAt text t n m q (i + 1) = stepAt text t n m q i ++ stepK text t p := by
  unfold stepAt
  rw [List.take_add_one, h, List.flatMap_append, ← List.append_assoc]; simp
theorem rep_map {f : Int → D} (n : Nat) (l : List Int) : (List.replicate n (l.map f)).flatten = ((List.replicate n l).flatten).map f := by
  rw [List.map_flatten, List.map_replicate]
theorem spots_lt {text : List Nat} {i p : Nat} (h : (spotsL text)[i]? = some p) : p < text.length := by
  unfold spotsL at h
  rw [List.getElem?_map] at h
  by_cases hi : i < text.length - 1
  · rw [List.getElem?_range hi] at h; cases h; show 1 + i < _; omega
  · rw [List.getElem?_eq_none (by simp; omega)] at h; cases h
theorem rep_len (n : Nat) (l : List Int) : ((List.replicate n l).flatten).length = n * l.length := by
  induction n with
  | zero => simp
  | succ n ih => rw [List.replicate_succ, List.flatten_cons, List.length_append, ih, Nat.succ_mul, Nat.add_comm]
theorem stepA_len {m q n : Nat} (hm : m ≤ 1024) (hq : q ≤ 1024) : (stepA m q n).length ≤ 6000 := by
  unfold stepA
  rw [List.length_append, List.length_append, rep_len, rep_len]
  simp only [List.length_cons, List.length_nil]
  split <;> simp <;> omega
theorem stepAt_len {text : List Nat} {t n m q : Nat} (hm : m ≤ 1024) (hq : q ≤ 1024) (hs : Sz 1024 text) (i : Nat) : (stepAt text t n m q i).length ≤ 9000 := by
  unfold stepAt
  have h1 := stepA_len (n := n) hm hq
  have h2 : ∀ l : List Nat, (l.flatMap (stepK text t)).length ≤ 2 * l.length := fun l => by
    induction l with
    | nil => simp
    | cons a r ih =>
      rw [List.flatMap_cons, List.length_append, List.length_cons]
      have : (stepK text t a).length ≤ 2 := by unfold stepK; split <;> simp
      omega
  have h3 := h2 ((spotsL text).take i)
  have h4 := (Ln.spots hs).out
  have h5 : ((spotsL text).take i).length ≤ (spotsL text).length := by rw [List.length_take]; omega
  rw [List.length_append]; omega
section
variable {C : Base} {j : Nat} {Mu : Addr → Prop}
noncomputable abbrev stpR (text : List Nat) (t n m q i : Nat) : Rho := [("steps", .list ((stepAt text t n m q i).map .int)), ("text", .str text), ("knot", .str [t])]
set_option maxHeartbeats 1000000 in
theorem steps_spec (G : PG C) {text : List Nat} {k t n m q : Nat} (h0 : text ≠ []) (hs : Sz 1024 text) (hm : m ≤ 1024) (hq : q ≤ 1024) :
    TL C (j + 1) Mu [.str text, .int k, .str [t], .int n, .int m, .int q] (fun vs => call (.ref 113) vs) (.list ((stepsL text t n m q).map .int)) := by
  refine TL.defP G (n := 71) (cd := 112) (names := ["text", "k", "knot", "n", "m", "q"]) (by decide) (fun pm vs hv => by obtain ⟨a, b, c, d, e, f, rfl⟩ := len6' hv; kernel_rfl) (by decide +kernel) rfl ?_
  intro prog A F h₀ hsc M H hA
  have hlen : text.length < 2 ^ 20 := Nat.lt_of_le_of_lt hs.out (by decide)
  have q2 : ((q : Int)).fdiv 2 = ((q / 2 : Nat) : Int) := by rw [Int.fdiv_eq_ediv_of_nonneg _ (by decide)]; omega
  have r2 : ((q : Int)).fmod 2 = ((q % 2 : Nat) : Int) := by rw [Int.fmod_eq_emod_of_nonneg _ (by decide)]; omega
  have l1 : ((List.replicate m [(0 : Int), 257]).flatten).length ≤ 2048 := by rw [rep_len]; simp; omega
  have l2 : ((List.replicate (q / 2) [(1 : Int), 258, 2, 258, 1, 259]).flatten).length ≤ 6000 := by rw [rep_len]; simp; omega
  refine XS.asg (d := .list (((List.replicate m [(0 : Int), 257]).flatten ++ (List.replicate (q / 2) [(1 : Int), 258, 2, 258, 1, 259]).flatten).map .int)) H hA
    (EV.bin H (EV.toL (EV.bin H (d1 := .list ([(0 : Int), 257].map .int)) (by walk_at "ev") (by walk_at "ev") (T2.mull (by omega) (by omega) (by simp; omega))) (by rw [Int.toNat_natCast, rep_map]))
      (EV.toL (EV.bin H (d1 := .list ([(1 : Int), 258, 2, 258, 1, 259].map .int)) (by walk_at "ev") (EV.toI (EV.bin H (by walk_at "ev") (by walk_at "ev") (T2.fdiv (by decide) (PyProof.noPylong_of_log2 (by decide)))) q2) (T2.mull (by omega) (by omega) (by simp; omega))) (by rw [Int.toNat_natCast, rep_map])) (T2.addm (Ln.mk l1) (Ln.mk l2) rfl)) (by walk_at "kd") (by walk_at "ne") ?_
  have fin : XS prog C A F (stpR text t n m q 0) ((bd (stmtAt 71)).drop 2) (Ret C F (.list ((stepsL text t n m q).map .int))) NoE := by
    refine XS.for H hA (ds := (spotsL text).map fun (p : Nat) => D.int (p : Int)) (ρs := stpR text t n m q) (ρ' := stpR text t n m q (spotsL text).length) (dr := .list ((stepsL text t n m q).map .int)) (SrcE.spots h0 hlen (EV.callT H (by walk_at "kd") (by walk_at "mem") (EVs.cons H (EV.int 1) (EVs.cons H (by walk_at "ev") EVs.nil)) TL.range2)) (fun p hp => hp) (fun i d hd => ?_) (fun p hp => by rw [List.length_map]; exact hp) Ret.of ?_
    · obtain ⟨e1, hmem⟩ := map_get' hd 0
      rw [List.getElem?_map] at hd
      obtain ⟨p, hp, rfl⟩ := Option.map_eq_some_iff.mp hd
      have hpl := spots_lt hp
      have hL := stepAt_len (t := t) (n := n) hm hq hs i
      have es := stepAt_succ (t := t) (n := n) (m := m) (q := q) hp
      refine ⟨("place", .int (p : Nat)) :: stpR text t n m q i, fun F₂ L => ?_, fun F₂ L => ?_⟩
      · have hsc₂ : F₂.env.scope = sc (stmtAt 71) := by rw [L.env]; exact hsc
        exact Asg.name L.fok (kd hsc₂ (by decide +kernel)) (by walk_at "ne")
      have H₂ := L.fok
      have hsc₂ : F₂.env.scope = sc (stmtAt 71) := by rw [L.env]; exact hsc
      refine XS.iff (b := [text.getD p 0] == [t]) H₂ hA (TT.cmp H₂ (EV.item (T := "str") H₂ (by walk_at "ev") (by walk_at "ev") (T2.atS hpl (by omega)) rfl) (by walk_at "ev") T2.eqs) (fun hb => ?_) (fun hb => ?_)
      · have ek : stepK text t p = [(p : Int), 258] := by unfold stepK; rw [if_pos hb]
        refine XS.asgW (d := .list ((stepAt text t n m q i ++ [(p : Int), 258]).map .int)) (ρ₀ := [("text", .str text), ("knot", .str [t])]) H₂ hA (EV.bin H₂ (by walk_at "ev") (d2 := .list ([(p : Int), 258].map .int)) (by walk_at "ev") (T2.addm (b := 2) (Ln.mk hL) (Ln.lit rfl) rfl)) (kd hsc₂ (by decide +kernel)) (by walk_at "subne") ?_
        refine XS.thenn (ρ' := stpR text t n m q (i + 1)) ?_ (fun p hp => by rw [stpR, es, ek] at hp; exact hp)
        exact XS.nil fun s' hs' => hs'
      · have ek : stepK text t p = [] := by unfold stepK; rw [if_neg (by rw [hb]; decide)]
        refine XS.thenn (ρ' := stpR text t n m q (i + 1)) ?_ (fun p hp => by rw [stpR, es, ek, List.append_nil] at hp; exact List.mem_cons_of_mem _ hp)
        exact XS.nil fun s' hs' => hs'
    · have e : stepAt text t n m q (spotsL text).length = stepsL text t n m q := by unfold stepAt stepsL; rw [List.take_length]
      rw [← e]
      exact XS.ret H hA (by walk_at "ev") Ret.of
  refine XS.iff (b := ((q % 2 : Nat) : Int) == 1) H hA (TT.cmp H (EV.toI (EV.bin H (by walk_at "ev") (by walk_at "ev") (T2.fmod (by decide))) r2) (EV.int 1) T2.eqi) (fun hb => ?_) (fun hb => ?_)
  · have e : stepAt text t n m q 0 = ((List.replicate m [(0 : Int), 257]).flatten ++ (List.replicate (q / 2) [(1 : Int), 258, 2, 258, 1, 259]).flatten) ++ [0, 256, 1 + (n : Int), 258, 1 + (n : Int), 259] := by
      unfold stepAt stepA; rw [if_pos (by simp at hb; omega), List.take_zero, List.flatMap_nil, List.append_nil]
    refine XS.asgW (d := .list ((stepAt text t n m q 0).map .int)) (ρ₀ := [("text", .str text), ("knot", .str [t])]) H hA (by
      rw [e]
      exact EV.bin H (by walk_at "ev") (d2 := .list ([0, 256, 1 + (n : Int), 258, 1 + (n : Int), 259].map .int)) (by walk_at "ev") (T2.addm (b := 6) (Ln.app (Ln.mk l1) (Ln.mk l2)) (Ln.lit rfl) rfl)) (by walk_at "kd") (by walk_at "subne") ?_
    exact XS.thenn fin fun p hp => hp
  · have e : stepAt text t n m q 0 = ((List.replicate m [(0 : Int), 257]).flatten ++ (List.replicate (q / 2) [(1 : Int), 258, 2, 258, 1, 259]).flatten) := by
      unfold stepAt stepA; rw [if_neg (by simp at hb; omega), List.take_zero, List.flatMap_nil, List.append_nil, List.append_nil]
    refine XS.thenn fin ?_
    rw [stpR, e]
    walk_at "sub"
end
section
variable {prog : Program} {w : World} {A : Around} {E : Value → Shared → Prop} {s : Shared} {it l : Addr} {i : Nat} {items : Array Value}
theorem call_next_item {x : Value} {Q : Value → Shared → Prop} (hit : s.heap.IsListIter it l i) (hl : s.heap.IsList l items) (hx : items[i]? = some x)
    (hQ : ∀ h', h'.IsListIter it l (i + 1) → Heap.SameBut it s.heap h' → Q x { s with heap := h' }) : wpAny (model prog w) A (call (.builtin "next") [.ref it]) Q E s := by
  obtain ⟨o, ho, hc, hd⟩ := id hit
  obtain ⟨ol, hol, _, nl, hdl⟩ := hl
  refine PySem.Calls.call_function_entry (by decide +kernel) (by decide +kernel) kdk_entry_next (kdk_args_next _) ?_
  unfold Builtin.«next»
  refine wpAny_bind (m := someArgs "next" 1 2 _) (wpAny_of_eq (a := [Value.ref it]) (by first | rfl | kernel_rfl) ?_)
  dsimp only
  refine wpAny_bind (wpAny_specialOf (name := Str.ofString "__next__") hit.typeIs slot_listiter_next.lookup ?_)
  refine wpAny_ite_split (fun hab => absurd hab (by decide)) (fun _ => ?_)
  refine wpAny_bind (wpAny_callSpecial?_slot (name := Str.ofString "__next__") hit.typeIs slot_listiter_next
    (wpAny_call_entry slot_listiter_next hit.typeIs entry_listiter_next ?_ (args_listiter_next _)))
  show wpAny _ _ (field (.ref it) 0 >>= _) _ _ s
  refine wpAny_bind (wpAny_field ho hd (x := .ref l) rfl ?_)
  show wpAny _ _ (if (Value.ref l == Value.none) = true then _ else _) _ _ s
  rw [if_neg (show ¬ ((Value.ref l == Value.none) = true) from Bool.false_ne_true)]
  show wpAny _ _ (field (.ref it) 1 >>= _) _ _ s
  refine wpAny_bind (wpAny_field ho hd (x := .int i 0) rfl ?_)
  show wpAny _ _ (seqItems? (.ref l) >>= _) _ _ s
  refine wpAny_bind (wpAny_seqItems hol hdl ?_)
  simp only [Int.toNat_natCast, hx]
  refine wpAny_bind (wpAny_setField ho hd (by simp) (wpAny_pure ⟨x, rfl, wpAny_pure ⟨x, rfl, hQ _ ?_ (Heap.SameBut.update ..)⟩⟩))
  exact ⟨_, Heap.get?_update_self _ ho (Obj.isFreed_of_fields (Obj.data_mapFields hd _)), (Obj.cls_mapFields ..).trans hc, by
    rw [Obj.data_mapFields hd]; simp [rawInt]⟩
theorem call_next_end {Q : Value → Shared → Prop} (hh : A.handled = none) (hit : s.heap.IsListIter it l i) (hl : s.heap.IsList l items) (hx : items[i]? = none)
    (hE : ∀ h₁ h' e, Heap.SameBut it s.heap h₁ → (∃ o, h₁.get? it = some o ∧ ∃ vs, o.data = .fields vs ∧ o.cls = .type "list_iterator") → Heap.MadeExc h₁ h' e "StopIteration" [] → E (.ref e) { s with heap := h' }) : wpAny (model prog w) A (call (.builtin "next") [.ref it]) Q E s := by
  obtain ⟨o, ho, hc, hd⟩ := id hit
  obtain ⟨ol, hol, _, nl, hdl⟩ := hl
  refine PySem.Calls.call_function_entry (by decide +kernel) (by decide +kernel) kdk_entry_next (kdk_args_next _) ?_
  unfold Builtin.«next»
  refine wpAny_bind (m := someArgs "next" 1 2 _) (wpAny_of_eq (a := [Value.ref it]) (by first | rfl | kernel_rfl) ?_)
  dsimp only
  refine wpAny_bind (wpAny_specialOf (name := Str.ofString "__next__") hit.typeIs slot_listiter_next.lookup ?_)
  refine wpAny_ite_split (fun hab => absurd hab (by decide)) (fun _ => ?_)
  refine wpAny_bind (wpAny_callSpecial?_slot (name := Str.ofString "__next__") hit.typeIs slot_listiter_next
    (wpAny_call_entry slot_listiter_next hit.typeIs entry_listiter_next ?_ (args_listiter_next _)))
  show wpAny _ _ (field (.ref it) 0 >>= _) _ _ s
  refine wpAny_bind (wpAny_field ho hd (x := .ref l) rfl ?_)
  show wpAny _ _ (if (Value.ref l == Value.none) = true then _ else _) _ _ s
  rw [if_neg (show ¬ ((Value.ref l == Value.none) = true) from Bool.false_ne_true)]
  show wpAny _ _ (field (.ref it) 1 >>= _) _ _ s
  refine wpAny_bind (wpAny_field ho hd (x := .int i 0) rfl ?_)
  show wpAny _ _ (seqItems? (.ref l) >>= _) _ _ s
  refine wpAny_bind (wpAny_seqItems hol hdl ?_)
  simp only [Int.toNat_natCast, hx]
  refine wpAny_bind (wpAny_rule (wpAny_bind (wpAny_setField ho hd (by simp) ?_)))
  show wpAny _ _ (newExc (.type "StopIteration") [] >>= _) _ _ _
  refine wpAny_bind ?_
  simp only [newExc, newTuple]
  refine wpAny_bind (wpAny_newObj_type ?_ (by size_fits))
  refine wpAny_bind (m := firstArgMember _ _) (wpAny_of_eq (a := Value.none) (by first | rfl | (simp only [firstArgMember]; rfl)) ?_)
  refine wpAny_newObj_type ?_ (by size_fits)
  refine wpAny_raiseNew_none hh ?_
  refine hE _ _ _ (Heap.SameBut.update ..) ⟨_, Heap.get?_update_self _ ho (Obj.isFreed_of_fields (Obj.data_mapFields hd _)), _, Obj.data_mapFields hd _, (Obj.cls_mapFields ..).trans hc⟩ ⟨fun b o hb => Heap.get?_push_of_some _ (Heap.get?_push_of_some _ hb), Heap.get?_none_of_le (by simp), _, ?_, Heap.get?_none_of_le (Nat.le_refl _), ?_⟩
  · exact Heap.get?_push_size _ rfl
  · exact Heap.get?_push_of_some _ (Heap.get?_push_size _ rfl)
end
section
variable {C : Base} {k : Nat} {F : Fn} {ρ : Rho} {prog : Program} {A : Around} {Q : Flow → Shared → Prop} {E : Value → Shared → Prop} {rest : List Stmt}
theorem XS.while {test : Expr} {body : List Stmt} {pos : Pos} {ρs : Nat → Rho} (H : FOK F) (I : Nat → Prop) (n : Nat) (b : Nat → Bool) (hA : Rm k A) (h0 : ∀ p ∈ ρs 0, p ∈ ρ) (hI : I 0)
    (ht : ∀ i, I i → TT C k F (ρs i) test (b i))
    (hb : ∀ i, I i → b i = true → i < n ∧ XS prog C A F (ρs i) body (fun f s => match f with | .next | .cont => I (i + 1) ∧ St C F (ρs (i + 1)) s | _ => False) E)
    (hrest : ∀ i, I i → b i = false → XS prog C A F (ρs i) rest Q E) (hE : PassesOwn (model prog C.w) A F.env E) : XS prog C A F ρ (.While test body [] pos :: rest) Q E := by
  intro s hs
  refine wpAny_execs_cons (wpAny_While ?_)
  refine codeAny_whileLoop (fun m s' => ∃ i, I i ∧ m = n - i ∧ St C F (ρs i) s') (fun m s' ⟨i, hi, em, hs'⟩ => ?_) _ ⟨0, hI, rfl, hs.weaken h0⟩
  refine (ht i hi).run _ _ _ _ _ hA hs' fun s₂ y => ?_
  have hs₂ := hs'.step y H.nt
  cases hbi : b i with
  | true =>
    obtain ⟨hlt, hx⟩ := hb i hi hbi
    rw [if_pos rfl]
    refine wpAny_mono (hx s₂ hs₂) (fun f s₃ q => ?_) fun e s₃ q => hE e s₃ q
    cases f with
    | next => exact ⟨n - (i + 1), by omega, i + 1, q.1, rfl, q.2⟩
    | cont => exact ⟨n - (i + 1), by omega, i + 1, q.1, rfl, q.2⟩
    | brk => exact q.elim
    | ret v => exact q.elim
  | false =>
    rw [if_neg (by decide)]
    exact wpAny_execs_nil (hrest i hi hbi s₂ hs₂)
theorem iter_notTab {h : Heap} {I l : Addr} {i : Nat} (t : TabsOK h) (e : h.IsListIter I l i) : ¬ isTab I := fun ht => by
  obtain ⟨vs, q⟩ := tab_fields t ht
  obtain ⟨o, e1, e2, _⟩ := e
  rw [q] at e1; cases e1; cases e2
theorem St.mutI {s : Shared} {y : Str} {I : Addr} {d : D} {m : Str → Option Value} {h' : Heap} {ρ' : Rho} (H : FOK F) (hs : St C F ρ s) (w : F.own I) (nt : ¬ isTab I) (nc : ∀ v, ¬ s.heap.IsCell I v) (nn : s.heap.Ns F.env.locals m) (hL : F.env.locals ≠ I) (a : At F s.heap m y (.ref I))
    (hh : ∀ p ∈ ρ, Has F s.heap m p.1 p.2) (hsb : Heap.SameBut I s.heap h') (hl : ∃ o, h'.get? I = some o) (r' : HasV F h' (.ref I) d) (hρ : ∀ p ∈ ρ', p ∈ ρ ∧ p.2.isOwn = false) : St C F ((y, d) :: ρ') { s with heap := h' } := by
  have vu := vis_upd (H.ownMu I w) hsb
  have cl : ∀ c v, s.heap.IsCell c v → h'.IsCell c v := fun c v x => x.sameBut hsb fun q => nc v (q ▸ x)
  have ats : ∀ y v, At F s.heap m y v → At F h' m y v := fun y v q => q.elim .inl fun ⟨h1, c, h2, h3⟩ => .inr ⟨h1, c, h2, cl c _ h3⟩
  refine ⟨hs.ok.upd (H.ownMu I w) nt hsb hl, fun a o e => (hsb.2 a fun q => H.ownKp a o e (q ▸ w)).trans (hs.kept a o e), hs.since.trans (Since.sameBut nt hsb hl), fun x c e => let ⟨v, hv⟩ := hs.cells x c e; ⟨v, cl c v hv⟩, m, nn.sameBut hsb hL, fun p hp => ?_⟩
  rcases List.mem_cons.mp hp with rfl | hp
  · exact ⟨_, r', ats _ _ a⟩
  · obtain ⟨h1, h2⟩ := hρ p hp
    obtain ⟨v, r, q⟩ := hh p h1
    exact ⟨v, .of ((r.rep h2).mono vu), ats _ _ q⟩
theorem St.itrAt {s : Shared} {x : Str} {ds : List D} (hs : St C F ρ s) (hm : (x, .itr ds) ∈ ρ) : ∃ I l i vs n m, F.own I ∧ s.heap.IsListIter I l i ∧ vis F.Mu s.heap l (listO vs n) ∧ RepL (vis F.Mu s.heap) (vs.drop i) ds ∧ s.heap.Ns F.env.locals m ∧ At F s.heap m x (.ref I) ∧ (∀ p ∈ ρ, Has F s.heap m p.1 p.2) ∧ ¬ isTab I ∧ F.env.locals ≠ I ∧ ∀ v, ¬ s.heap.IsCell I v := by
  obtain ⟨m, n, hh⟩ := hs.fr
  obtain ⟨v, ⟨I, l, i, vs, k, rfl, w, e, x, r⟩, a⟩ := hh _ hm
  refine ⟨I, l, i, vs, k, m, w, e, x, r, n, a, hh, iter_notTab hs.ok.tabs e, fun q => ?_, fun v ⟨o, e1, e2⟩ => ?_⟩
  · obtain ⟨o, es, ep, e2, hd, _⟩ := n
    obtain ⟨o', e1, _, e3⟩ := e
    rw [q, e1] at e2; cases e2; rw [e3] at hd; cases hd
  · obtain ⟨o', e3, _, e4⟩ := e
    rw [e1] at e3; cases e3; rw [e2] at e4; cases e4
theorem next_mem : ((Str.ofString "next" : Str), Value.builtin "next") ∈ biList := by decide
theorem next_eval (H : FOK F) {y : Str} {p1 p2 p3 : Pos} {s : Shared} {v0 : Value} {m : Str → Option Value} {Q : Value → Shared → Prop} (hs : St C F ρ s) (hx : F.env.kindOf "next" = some .globalImplicit) (nn : s.heap.Ns F.env.locals m) (a : At F s.heap m y v0) (hd : (y == ("__debug__" : Str)) = false)
    (h : wpAny (model prog C.w) A (call (.builtin "next") [v0]) Q E s) (he : starEach [.Name y p2] F.env = (false, eval (.Name y p2) F.env) :: starEach [] F.env := by rfl) (hp : (backTo p3 (starEach [] F.env)).any (·.1) = false := by rfl) :
    wpAny (model prog C.w) A (eval (.Call (.Name "next" p1) [.Name y p2] [] p3) F.env) Q E s := by
  refine wpAny_Call_NameR (Calls.Name_function_global H.kind hx (Calls.loadGlobal_builtin (hs.mg H) (C.bi _ next_mem).1 (hs.mb H) (C.bi _ next_mem).2 ?_) (by decide +kernel))
  exact callWith_builtin1 (spliced_more (At.load H nn a hd (spliced_none h)) he) he hp
theorem XS.next (H : FOK F) {x y : Str} {px p1 p2 p3 pos : Pos} {d : D} {ds : List D} {ρ₀ : Rho} (hm : (y, .itr (d :: ds)) ∈ ρ) (hf : d.flat = true) (hk : F.env.kindOf x = some .local) (hx : F.env.kindOf "next" = some .globalImplicit) (hρ : ∀ p ∈ ρ₀, p ∈ ρ ∧ p.2.isOwn = false) (hne : ρ₀.all (fun p => p.1 != x) = true) (hxy : (y != x) = true)
    (h : XS prog C A F ((x, d) :: (y, .itr ds) :: ρ₀) rest Q E) (hd : (y == ("__debug__" : Str)) = false := by decide +kernel) (hsw : swapsWith (.Call (.Name "next" p1) [.Name y p2] [] p3) (some (.Name x px)) pos.line F.env = pure false := by rfl) :
    XS prog C A F ρ (.Assign [.Name x px] (.Call (.Name "next" p1) [.Name y p2] [] p3) pos :: rest) Q E := by
  intro s hs
  obtain ⟨I, l, i, vs, n, m, w, e, hl, r, nn, a, hh, nt, hL, nc⟩ := hs.itrAt hm
  obtain ⟨v, ws, ev, rv, rw'⟩ := r.cons_i
  have hget : vs[i]? = some v := by
    have := congrArg (·[0]?) ev
    simpa [List.getElem?_drop] using this
  have hdrop : vs.drop (i + 1) = ws := by
    have := congrArg (List.drop 1) ev
    simpa [List.drop_drop] using this
  refine wpAny_execs_cons (wpAny_Assign_Name (next_eval H hs hx nn a hd (call_next_item e (isList_of hl.2) (by rw [List.getElem?_toArray]; exact hget) fun h' e' hsb => ?_)) hsw)
  have vu := vis_upd (H.ownMu I w) hsb
  have hs' : St C F ((y, .itr ds) :: ρ₀) { s with heap := h' } := hs.mutI H w nt nc nn hL a hh hsb (let ⟨o, q, _⟩ := e'; ⟨o, q⟩) ⟨I, l, i + 1, vs, n, rfl, w, e', vu _ _ hl, hdrop ▸ rw'.mono vu⟩ hρ
  exact hs'.store H hk (rv.flat hf) (fun p hp => (List.mem_cons.mp hp).elim (fun q => by rw [q]; simpa using hxy) (ne_of_all hne p)) fun s2 h2 => h s2 h2
theorem XS.nextE (H : FOK F) {x y : Str} {px p1 p2 p3 pos : Pos} (hA : Rm k A) (hm : (y, .itr []) ∈ ρ) (hx : F.env.kindOf "next" = some .globalImplicit)
    (hE : ∀ s I h₁ h' e, St C F ρ s → F.own I → ¬ isTab I → F.env.locals ≠ I → Heap.SameBut I s.heap h₁ → (∃ o, h₁.get? I = some o ∧ ∃ vs, o.data = .fields vs ∧ o.cls = .type "list_iterator") → Heap.MadeExc h₁ h' e "StopIteration" [] → (∀ m, ¬ s.heap.Ns I m) → E (.ref e) { s with heap := h' }) (hd : (y == ("__debug__" : Str)) = false := by decide +kernel) (hsw : swapsWith (.Call (.Name "next" p1) [.Name y p2] [] p3) (some (.Name x px)) pos.line F.env = pure false := by rfl) :
    XS prog C A F ρ (.Assign [.Name x px] (.Call (.Name "next" p1) [.Name y p2] [] p3) pos :: rest) Q E := by
  intro s hs
  obtain ⟨I, l, i, vs, n, m, w, e, hl, r, nn, a, hh, nt, hL, nc⟩ := hs.itrAt hm
  have hget : vs[i]? = none := by
    have := congrArg (·[0]?) r.nil_i
    simpa [List.getElem?_drop] using this
  exact wpAny_execs_cons (wpAny_Assign_Name (next_eval H hs hx nn a hd (call_next_end hA.1 e (isList_of hl.2) (by rw [List.getElem?_toArray]; exact hget) fun h₁ h' e hsb hI hm => hE s I h₁ h' e hs w nt hL hsb hI hm fun m' x => by
    obtain ⟨o, es, ep, e2, hd', _⟩ := x
    obtain ⟨o', e1, _, e3⟩ := ‹s.heap.IsListIter I l i›
    rw [e1] at e2; cases e2; rw [e3] at hd'; cases hd')) hsw)
variable {Mu : Addr → Prop} {a b : Int}
theorem T2.ishl (h : 0 ≤ b) (h2 : (Builtin.Int.intBits a : Int) + b ≤ 2 ^ 27) : T2 C k Mu (.int a) (.int b) (inplaceOp .LShift) (.int (a * 2 ^ b.toNat)) := by
  refine T2.mk ?_
  intro prog A s v1 v2 Q E hA ho h1 h2 hQ; obtain ⟨t1, rfl⟩ := h1.int_i; obtain ⟨t2, rfl⟩ := h2.int_i; exact ilshift_int h (by assumption) (hQ _ _ Step.tok (.int _ _))
theorem T2.ior : T2 C k Mu (.int a) (.int b) (inplaceOp .BitOr) (.int (Builtin.bitOr a b)) := by
  refine T2.mk ?_
  intro prog A s v1 v2 Q E hA ho h1 h2 hQ; obtain ⟨t1, rfl⟩ := h1.int_i; obtain ⟨t2, rfl⟩ := h2.int_i; exact ior_int (hQ _ _ Step.tok (.int _ _))
end
theorem and63 {b : Int} (h : 0 ≤ b) : Builtin.bitAnd b 63 = b % 64 := by
  obtain ⟨X, rfl⟩ := Int.eq_ofNat_of_zero_le h
  rw [bitAnd_pp h (by decide)]
  show ((X &&& 63 : Nat) : Int) = _
  rw [show (63 : Nat) = 2 ^ 6 - 1 by rfl, Nat.and_two_pow_sub_one_eq_mod]; omega
theorem nat_and64 (X : Nat) : X &&& 2 ^ 6 = if X.testBit 6 then 2 ^ 6 else 0 := by
  refine Nat.eq_of_testBit_eq fun j => ?_
  rw [Nat.testBit_and, Nat.testBit_two_pow]
  cases h : X.testBit 6
  · rw [if_neg (by decide), Nat.zero_testBit]
    by_cases q : 6 = j
    · subst q; rw [h]; rfl
    · rw [decide_eq_false q, Bool.and_false]
  · rw [if_pos rfl, Nat.testBit_two_pow]
    by_cases q : 6 = j
    · subst q; rw [h]; rfl
    · rw [decide_eq_false q, Bool.and_false]
theorem and64 {b : Int} (h : 0 ≤ b) : (Builtin.bitAnd b 64 != 0) = decide (b / 64 % 2 = 1) := by
  obtain ⟨X, rfl⟩ := Int.eq_ofNat_of_zero_le h
  rw [bitAnd_pp h (by decide)]
  show (((X &&& 64 : Nat) : Int) != 0) = _
  rw [show (64 : Nat) = 2 ^ 6 by rfl, nat_and64]
  have e : X.testBit 6 = decide (X / 2 ^ 6 % 2 = 1) := Nat.testBit_eq_decide_div_mod_eq
  rw [e]
  by_cases q : X / 2 ^ 6 % 2 = 1
  · rw [decide_eq_true q, if_pos rfl, decide_eq_true (by omega)]; rfl
  · rw [decide_eq_false q, if_neg (by decide), decide_eq_false (by omega)]; rfl
theorem or64 {v c : Int} (hv : 0 ≤ v) (h0 : 0 ≤ c) (h1 : c < 64) : Builtin.bitOr (v * 2 ^ (6 : Int).toNat) c = v * 64 + c := by
  obtain ⟨V, rfl⟩ := Int.eq_ofNat_of_zero_le hv
  obtain ⟨X, rfl⟩ := Int.eq_ofNat_of_zero_le h0
  have e : ((V : Int) * 2 ^ (6 : Int).toNat) = ((V * 2 ^ 6 : Nat) : Int) := by push_cast; rfl
  rw [bitOr_and, e, bitAnd_pp (by omega) h0, Int.toNat_natCast, Int.toNat_natCast]
  have : V * 2 ^ 6 &&& X = 0 := by
    refine Nat.eq_of_testBit_eq fun j => ?_
    rw [Nat.testBit_and, Nat.testBit_mul_two_pow, Nat.zero_testBit]
    by_cases q : 6 ≤ j
    · have : X.testBit j = false := Nat.testBit_lt_two_pow (Nat.lt_of_lt_of_le (show X < 2 ^ 6 by omega) (Nat.pow_le_pow_right (by decide) q))
      rw [this, Bool.and_false]
    · simp [q]
  rw [this]; omega
noncomputable def killO (o : Obj) : Obj := { o with data := .freed }
noncomputable def killAll (h : Heap) (as : List Addr) : Heap := as.foldl (fun h a => h.update a killO) h
theorem kill_self {h : Heap} {a : Addr} : (h.update a killO).get? a = none := by
  cases h with
  | mk objs l =>
    simp only [Heap.update, Heap.get?, Array.getElem?_modify, if_true]
    cases objs[a]? with
    | none => rfl
    | some o => rfl
theorem kill_none {h : Heap} {a b : Addr} (hb : h.get? b = none) : (h.update a killO).get? b = none := by
  by_cases q : a = b
  · subst q; exact kill_self
  · rw [Heap.get?_update_other _ _ q]; exact hb
theorem killAll_keep {as : List Addr} : ∀ {h : Heap} {b : Addr}, h.get? b = none → (killAll h as).get? b = none := by
  induction as with
  | nil => intro h b hb; exact hb
  | cons a r ih => intro h b hb; exact ih (h := h.update a killO) (kill_none hb)
theorem killAll_none {as : List Addr} {b : Addr} (hb : b ∈ as) : ∀ {h : Heap}, (killAll h as).get? b = none := by
  induction as with
  | nil => cases hb
  | cons a r ih =>
    intro h
    rcases List.mem_cons.mp hb with rfl | hb
    · exact killAll_keep (as := r) (h := h.update b killO) kill_self
    · exact ih hb (h := h.update a killO)
theorem killAll_other {as : List Addr} {b : Addr} (hb : b ∉ as) : ∀ {h : Heap}, (killAll h as).get? b = h.get? b := by
  induction as with
  | nil => intro h; rfl
  | cons a r ih =>
    intro h
    rw [List.mem_cons, not_or] at hb
    exact (ih hb.2 (h := h.update a killO)).trans (Heap.get?_update_other _ _ (Ne.symm hb.1))
theorem killAll_sub {as : List Addr} {b : Addr} {o : Obj} {h : Heap} (e : (killAll h as).get? b = some o) : h.get? b = some o ∧ b ∉ as := by
  by_cases q : b ∈ as
  · rw [killAll_none q] at e; cases e
  · rw [killAll_other q] at e; exact ⟨e, q⟩
noncomputable def FramesAt (outer : List Env) (h : Heap) : Prop := ∀ env ∈ outer, env.scope.kind ≠ .module ∧ ∃ L m, env.frame = some L ∧ h.Ns L m
noncomputable def framesOf (outer : List Env) : List Addr := outer.filterMap (·.frame)
theorem FramesAt.fun {outer : List Env} {h base : Heap} (x : FramesAt outer h) (hb : ∀ a ∈ framesOf outer, base.get? a = none) : h.FunFrames base outer := by
  induction outer with
  | nil => trivial
  | cons env r ih =>
    obtain ⟨h1, L, m, h2, h3⟩ := x env (List.mem_cons_self ..)
    have h4 : base.get? L = none := hb L (by unfold framesOf; rw [List.filterMap_cons, h2]; exact List.mem_cons_self ..)
    refine Heap.FunFrames.cons h1 h2 h3 h4 (ih (fun e he => x e (List.mem_cons_of_mem _ he)) fun a ha => hb a ?_)
    unfold framesOf at ha ⊢
    rw [List.filterMap_cons, h2]; exact List.mem_cons_of_mem _ ha
structure Raised (outer : List Env) (I : Addr) (sr s' : Shared) (e : Addr) : Prop where
  fly : ∃ (a0 : Value) (base : Heap), base.FlyingW outer e (.type "StopIteration") a0 s'.heap ∧ ∀ a o, a ≠ I → a ∉ framesOf outer → sr.heap.get? a = some o → base.get? a = some o
  ns : ∀ a m, sr.heap.Ns a m → s'.heap.Ns a m
  rest : s'.gens = sr.gens ∧ s'.os = sr.os
  live : ∀ a, a ∈ framesOf outer → ∀ o, sr.heap.get? a = some o → (∀ vs, o.data ≠ .fields vs) → ∃ o', s'.heap.get? a = some o'
section
variable {C : Base} {k : Nat} {F : Fn} {prog : Program} {A : Around} {E : Value → Shared → Prop}
theorem leave_next {ρ : Rho} (H : FOK F) {outer : List Env} {s : Shared} {I : Addr} {h₁ h' : Heap} {e : Addr} (hfr : A.frames = some (F.env :: outer)) (hfm : F.env.frame = some F.env.locals) (hs : St C F ρ s) (hL : F.env.locals ≠ I) (hFA : FramesAt outer s.heap)
    (hsb : Heap.SameBut I s.heap h₁) (hlI : ∃ o, h₁.get? I = some o ∧ ∃ vs, o.data = .fields vs ∧ o.cls = .type "list_iterator") (hmk : Heap.MadeExc h₁ h' e "StopIteration" []) (hnI : ∀ m, ¬ s.heap.Ns I m) {E₂ : Value → Shared → Prop}
    (hQ : ∀ s' sr : Shared, (∀ a o, a ≠ F.env.locals → s.heap.get? a = some o → sr.heap.get? a = some o) → sr.gens = s.gens → sr.os = s.os → Raised outer I sr s' e → E (.ref e) s') :
    wpAny (model prog C.w) A (leaving F.env (.ref e)) (fun _ s'' => E (.ref e) s'') E₂ { s with heap := h' } := by
  obtain ⟨m, nn, _⟩ := hs.fr
  have hb : ∀ a o, (killAll s.heap (F.env.locals :: I :: framesOf outer)).get? a = some o → s.heap.get? a = some o ∧ a ≠ F.env.locals ∧ a ≠ I ∧ a ∉ framesOf outer := fun a o q => by
    obtain ⟨q1, q2⟩ := killAll_sub q
    rw [List.mem_cons, List.mem_cons, not_or, not_or] at q2
    exact ⟨q1, q2⟩
  have nsh : ∀ a m, s.heap.Ns a m → h₁.Ns a m := fun a m x => x.sameBut hsb fun q => hnI m (q ▸ x)
  refine wpAny_leaves_madeW (base := killAll s.heap (F.env.locals :: I :: framesOf outer)) (h := h₁) hfr hfm (fun a o q => (hsb.2 a (hb a o q).2.2.1).trans (hb a o q).1) ?_ hmk.of fun h'' t hfl _ htn hup => ?_
  · refine Heap.FunFrames.cons (by rw [H.kind]; decide) hfm (nsh _ _ nn) (killAll_none (List.mem_cons_self ..)) ?_
    refine FramesAt.fun (fun env he => ?_) fun a ha => killAll_none (List.mem_cons_of_mem _ (List.mem_cons_of_mem _ ha))
    obtain ⟨h1, L, m', h2, h3⟩ := hFA env he
    exact ⟨h1, L, m', h2, nsh _ _ h3⟩
  · refine hQ _ { s with heap := killAll s.heap [F.env.locals] } (fun a o q e => (killAll_other (by simpa using q)).trans e) rfl rfl ⟨⟨_, _, hfl, fun a o q1 q2 q3 => ?_⟩, fun a m x => ?_, ⟨rfl, rfl⟩, fun a ha o q1 q2 => ?_⟩
    · obtain ⟨q3, q4⟩ := killAll_sub q3
      refine (killAll_other ?_).trans q3
      rw [List.mem_cons, List.mem_cons, not_or, not_or]
      exact ⟨by simpa using q4, q1, q2⟩
    · refine hup.ns ?_
      have x' : s.heap.Ns a m := let ⟨o, es, ep, e, r⟩ := x; ⟨o, es, ep, (killAll_sub e).1, r⟩
      obtain ⟨o, es, ep, e, r⟩ := nsh a m x'
      exact ⟨o, es, ep, hmk.keeps _ _ e, r⟩
    · obtain ⟨q3, q4⟩ := killAll_sub q1
      have hne : a ≠ I := fun q => by
        obtain ⟨env, he, e2⟩ := List.mem_filterMap.mp (show a ∈ outer.filterMap (·.frame) from ha)
        obtain ⟨_, L, m', h2, h3⟩ := hFA env he
        rw [h2] at e2; cases e2
        exact hnI m' (q ▸ h3)
      obtain ⟨sl, z⟩ := hup a o (hmk.keeps _ _ ((hsb.2 a hne).trans q3)) q2
      exact ⟨_, z⟩
end
noncomputable def pv (val b : Int) : List Int → Option (Int × List Int)
  | [] => if b / 64 % 2 = 1 then none else some (val, [])
  | b' :: r => if b / 64 % 2 = 1 then pv (val * 64 + b' % 64) b' r else some (val, b' :: r)
noncomputable def parseV : List Int → Option (Int × List Int)
  | [] => none
  | b :: r => pv (b % 64) b r
noncomputable def pstep : Int × Int × List Int → Int × Int × List Int
  | (v, b, []) => (v, b, [])
  | (v, _, b' :: r) => (v * 64 + b' % 64, b', r)
noncomputable def pst (x : Int × Int × List Int) : Nat → Int × Int × List Int
  | 0 => x
  | i + 1 => pstep (pst x i)
noncomputable def pvS (x : Int × Int × List Int) : Option (Int × List Int) := pv x.1 x.2.1 x.2.2
structure PInv (x : Int × Int × List Int) (i : Nat) : Prop where
  v0 : 0 ≤ (pst x i).1
  v1 : (pst x i).1 < 2 ^ (6 * (i + 1))
  b0 : 0 ≤ (pst x i).2.1
  r0 : ∀ d ∈ (pst x i).2.2, 0 ≤ d
  len : (pst x i).2.2.length + i = x.2.2.length
  same : pvS (pst x i) = pvS x
theorem pv_stop {val b : Int} {r : List Int} (h : ¬ b / 64 % 2 = 1) : pv val b r = some (val, r) := by
  cases r <;> rw [pv, if_neg h]
theorem PInv.next {x : Int × Int × List Int} {i : Nat} (P : PInv x i) {v b b' : Int} {r : List Int} (e : pst x i = (v, b, b' :: r)) (h : b / 64 % 2 = 1) : PInv x (i + 1) ∧ pst x (i + 1) = (v * 64 + b' % 64, b', r) := by
  have e2 : pst x (i + 1) = (v * 64 + b' % 64, b', r) := by rw [pst, e]; rfl
  obtain ⟨v0, v1, b0, r0, len, same⟩ := P
  rw [e] at v0 v1 b0 r0 len same
  have hb' := r0 b' (List.mem_cons_self ..)
  have p2 : (2 : Int) ^ (6 * (i + 1 + 1)) = 64 * 2 ^ (6 * (i + 1)) := by rw [Nat.mul_add 6 (i + 1) 1, Int.pow_add, Int.mul_comm]; rfl
  simp only at v0 v1
  refine ⟨⟨?_, ?_, ?_, ?_, ?_, ?_⟩, e2⟩ <;> rw [e2]
  · show 0 ≤ v * 64 + b' % 64; omega
  · show v * 64 + b' % 64 < _; rw [p2]; omega
  · exact hb'
  · exact fun d hd => r0 d (List.mem_cons_of_mem _ hd)
  · simp only [List.length_cons] at len ⊢; omega
  · rw [← same]
    show pv (v * 64 + b' % 64) b' r = pv v b (b' :: r)
    rw [pv.eq_2, if_pos h]
section
variable {C : Base} {k : Nat} {F : Fn} {prog : Program} {A : Around} {Q : Flow → Shared → Prop} {E : Value → Shared → Prop}
noncomputable abbrev parR (x : Int × Int × List Int) (i : Nat) : Rho := [("b", .int (pst x i).2.1), ("val", .int (pst x i).1), ("iterator", .itr ((pst x i).2.2.map .int))]
theorem parse_body {ds : List Int} (H : FOK F) (hsc : F.env.scope = sc (stmtAt 12)) (hA : Rm k A) (hd : ∀ d ∈ ds, 0 ≤ d) (hl : ds.length ≤ 2 ^ 12) (hpo : PassesOwn (model prog C.w) A F.env E)
    (hQ : ∀ v r s w, parseV ds = some (v, r) → St C F [("iterator", .itr (r.map .int))] s → Rep (vis F.Mu s.heap) w (.int v) → Q (.ret w) s)
    (hE : parseV ds = none → ∀ s I h₁ h' e, St C F [] s → F.own I → ¬ isTab I → F.env.locals ≠ I → Heap.SameBut I s.heap h₁ → (∃ o, h₁.get? I = some o ∧ ∃ vs, o.data = .fields vs ∧ o.cls = .type "list_iterator") → Heap.MadeExc h₁ h' e "StopIteration" [] → (∀ m, ¬ s.heap.Ns I m) → E (.ref e) { s with heap := h' }) :
    XS prog C A F [("iterator", .itr (ds.map .int))] (bd (stmtAt 12)) Q E := by
  cases ds with
  | nil => exact XS.nextE H hA (List.Mem.head _) (kd hsc (by decide +kernel)) fun s I h₁ h' e hs => hE rfl s I h₁ h' e (hs.weaken fun _ h => nomatch h)
  | cons b0 r0 =>
    have hb0 := hd b0 (List.mem_cons_self ..)
    refine XS.next H (d := .int b0) (ds := r0.map .int) (ρ₀ := []) (List.Mem.head _) rfl (kd hsc (by decide +kernel)) (kd hsc (by decide +kernel)) (fun _ h => nomatch h) rfl (by decide +kernel) ?_
    refine XS.asg (d := .int (b0 % 64)) H hA (EV.toI (EV.bin H (by walk_at "ev") (by walk_at "ev") T2.band) (and63 hb0)) (by walk_at "kd") (by walk_at "ne") ?_
    have P0 : PInv (b0 % 64, b0, r0) 0 := ⟨by show 0 ≤ b0 % 64; omega, by show b0 % 64 < 2 ^ 6; omega, hb0, fun d h => hd d (List.mem_cons_of_mem _ h), rfl, rfl⟩
    refine XS.while H (ρs := parR (b0 % 64, b0, r0)) (PInv (b0 % 64, b0, r0)) (r0.length + 1) (fun i => decide ((pst (b0 % 64, b0, r0) i).2.1 / 64 % 2 = 1)) hA (by walk_at "sub") P0 (fun i P => ?t) (fun i P hb => ?b) (fun i P hb => ?r) hpo
    case t => exact TT.val H (d := .int (Builtin.bitAnd (pst (b0 % 64, b0, r0) i).2.1 64)) (EV.bin H (by walk_at "ev") (by walk_at "ev") T2.band) rfl (and64 P.b0)
    case r =>
      have hb := of_decide_eq_false hb
      refine XS.ret H hA (by walk_at "ev") fun w s hs r => hQ _ _ s w ?_ (hs.weaken (by walk_at "sub")) r
      show pvS (b0 % 64, b0, r0) = _
      rw [← P.same]
      exact pv_stop hb
    case b =>
      have hb := of_decide_eq_true hb
      have hlen := P.len
      refine ⟨by simp only at hlen; omega, ?_⟩
      cases hx : pst (b0 % 64, b0, r0) i with
      | mk v q =>
        obtain ⟨b, r⟩ := q
        have v0 := P.v0
        have v1 := P.v1
        have b1 := P.b0
        have sm := P.same
        unfold parR
        rw [hx] at hb hlen v0 v1 b1 sm ⊢
        simp only at hb hlen v0 v1 b1
        have hbits := bits_le v0 v1
        have hsh : (Builtin.Int.intBits v : Int) + 6 ≤ 2 ^ 27 := by simp only [List.length_cons] at hl; omega
        refine XS.aug (d1 := .int v) (d2 := .int 6) (d := .int (v * 2 ^ (6 : Int).toNat)) (ρ' := [("b", .int b), ("iterator", .itr (r.map .int))]) H hA (by walk_at "mem") rfl (by walk_at "ev") (T2.ishl (by decide) hsh) (by walk_at "kd") (by walk_at "subne") ?_
        cases r with
        | nil =>
          refine XS.nextE H hA (by walk_at "mem") (by walk_at "kd") fun s I h₁ h' e hs => hE ?_ s I h₁ h' e (hs.weaken fun _ h => nomatch h)
          show pvS (b0 % 64, b0, r0) = none
          rw [← sm]
          show pv v b [] = none
          rw [pv, if_pos hb]
        | cons b' r =>
          obtain ⟨P', e'⟩ := P.next hx hb
          have hb' := P.r0 b' (by rw [hx]; exact List.mem_cons_self ..)
          refine XS.next H (d := .int b') (ds := r.map .int) (ρ₀ := [("val", .int (v * 2 ^ (6 : Int).toNat))]) (by walk_at "mem") rfl (by walk_at "kd") (by walk_at "kd") (by walk_at "subown") (by kernel_rfl) (by decide +kernel) ?_
          refine XS.aug (d1 := .int (v * 2 ^ (6 : Int).toNat)) (d2 := .int (b' % 64)) (d := .int (v * 64 + b' % 64)) (ρ' := [("b", .int b'), ("iterator", .itr (r.map .int))]) H hA (by walk_at "mem") rfl (EV.toI (EV.bin H (by walk_at "ev") (by walk_at "ev") T2.band) (and63 hb')) (or64 v0 (Int.emod_nonneg _ (by decide)) (Int.emod_lt_of_pos _ (by decide)) ▸ T2.ior) (by walk_at "kd") (by walk_at "subne") ?_
          refine XS.nil fun s hs => ⟨P', ?_⟩
          rw [e']
          exact hs.weaken (by walk_at "sub")
variable {Mu : Addr → Prop} {A : Around} {Q : Value → Shared → Prop}
theorem FramesAt.keep {outer : List Env} {h h' : Heap} (x : FramesAt outer h) (hk : ∀ a m, h.Ns a m → h'.Ns a m) : FramesAt outer h' := fun env he => let ⟨h1, L, m, h2, h3⟩ := x env he; ⟨h1, L, m, h2, hk L m h3⟩
theorem parse_call (G : PG C) {s : Shared} {I l : Addr} {i n : Nat} {vs : List Value} {ds : List Int} {outer : List Env} (hA : Rm (k + 1) A) (hfr : A.frames = some outer) (ho : OK C Mu s) (hMI : Mu I) (hit : s.heap.IsListIter I l i) (hl : vis Mu s.heap l (listO vs n)) (r : RepL (vis Mu s.heap) (vs.drop i) (ds.map .int))
    (hd : ∀ d ∈ ds, 0 ≤ d) (hlen : ds.length ≤ 2 ^ 12) (hFA : FramesAt outer s.heap)
    (hQ : ∀ v r s' t, parseV ds = some (v, r) → StepX (· = I) s s' → (∃ l i vs n, s'.heap.IsListIter I l i ∧ vis Mu s'.heap l (listO vs n) ∧ RepL (vis Mu s'.heap) (vs.drop i) (r.map .int)) → Q (.int v t) s')
    (hE : parseV ds = none → ∀ s' sr s₂ e, StepX (· = I) s s₂ → OK C Mu s₂ → (∃ Lp, s.heap.get? Lp = none ∧ (∃ m, s₂.heap.Ns Lp m) ∧ ∀ a o, a ≠ Lp → s₂.heap.get? a = some o → sr.heap.get? a = some o) → sr.gens = s₂.gens → sr.os = s₂.os → Raised outer I sr s' e → E (.ref e) s') :
    wpAny (model prog C.w) A (call (.ref 70) [.ref I]) Q E s := by
  obtain ⟨pm, hfd⟩ := G.fd (70, 12, 69) (by decide)
  obtain ⟨o, hobj, hdat, hcd⟩ := C.fn _ _ hfd
  have q1 : ∀ x ∈ (["iterator"] : List Str), (sc (stmtAt 12)).names.lookup x = some .local := by decide +kernel
  have q2 : ∀ x ∈ (sc (stmtAt 12)).names, x.2 ≠ .cell := by decide +kernel
  have q3 : (sc (stmtAt 12)).isCoroutine = false := by decide +kernel
  have q4 : (sc (stmtAt 12)).isGenerator = false := by decide +kernel
  have q5 : (sc (stmtAt 12)).kind = .function := by decide +kernel
  refine call_closE (X := (· = I)) (names := ["iterator"]) (ds := [.itr (ds.map .int)]) (ρc := []) hA ho (ho.keep _ _ hobj) hdat (hcd.keeps ho.keep) rfl (fun p hp => ?_) (by kernel_rfl) q1 q2 rfl rfl q3 q4 q5 (fun a q => q ▸ hMI) (fun a q => q ▸ iter_notTab ho.tabs hit) (fun _ _ e => nomatch e) rfl (fun _ h => nomatch h) fun F M hA' => ?_
  · rw [List.mem_singleton.mp hp]
    exact ⟨.ref I, by rfl, fun F w hv => ⟨I, l, i, vs, n, rfl, w I rfl, hit, hv _ _ hl, r.mono hv⟩⟩
  have H := M.fok
  have hIne : ∀ a m, s.heap.Ns a m → a ≠ I := fun a m x q => by
    obtain ⟨o, es, ep, e2, hd', _⟩ := x
    obtain ⟨o', e1, _, e3⟩ := hit
    rw [q, e1] at e2; cases e2; rw [e3] at hd'; cases hd'
  have own1 : ∀ a, F.own a → F.env.locals ≠ a → a = I := fun a w q => ((M.own a).mp w).resolve_left fun z => q z.symm
  refine parse_body (ds := ds) H M.sc hA' hd hlen PassesOwn.leaving (fun v r s' w hp hs rw' => ?_) fun hp s₂ I' h₁ h' e hs w nt hL hsb hlI hmk hnI => ?_
  · obtain ⟨t, rfl⟩ := rw'.int_i
    obtain ⟨I', l', i', vs', n', m, w, e, x, q, nn, a, hh, nt, hL, nc⟩ := hs.itrAt (List.Mem.head _)
    have := own1 I' w hL
    subst this
    refine hQ v r s' t hp (M.step ho hs) ⟨l', i', vs', n', e, ⟨fun hm => x.1 (M.mu _ hm), x.2⟩, q.mono fun a o v => ⟨fun hm => v.1 (M.mu _ hm), v.2⟩⟩
  · have := own1 I' w hL
    subst this
    have sx := M.step ho hs
    have nk : ∀ a m, s.heap.Ns a m → s₂.heap.Ns a m := fun a m x => by
      have h1 := notTab_ns ho.tabs x
      have h2 := hIne a m x
      obtain ⟨o, es, ep, e, r⟩ := x
      exact ⟨o, es, ep, sx.keep a o h1 h2 e, r⟩
    refine leave_next H (by show (A.frames.map (F.env :: ·)) = _; rw [hfr]; rfl) M.frame hs hL (hFA.keep nk) hsb hlI hmk hnI fun s' sr h1 h2 h3 hR => hE hp s' sr s₂ e sx (hs.ok.less M.mu ho.tab) ⟨F.env.locals, M.fresh, let ⟨m, nn, _⟩ := hs.fr; ⟨m, nn⟩, h1⟩ h2 h3 hR
end
section
variable {C : Base} {k : Nat} {F : Fn} {ρ : Rho} {prog : Program} {A : Around}
theorem St.setNs (H : FOK F) {s : Shared} {h' : Heap} {m' : Str → Option Value} {tk : Nat} {ρ' : Rho} (hs : St C F ρ s) (hsb : Heap.SameBut F.env.locals s.heap h') (n' : h'.Ns F.env.locals m') (hh : ∀ p ∈ ρ', Has F h' m' p.1 p.2) : St C F ρ' { s with heap := h', toks := tk } := by
  obtain ⟨m, n, _⟩ := hs.fr
  exact ⟨hs.ok.upd H.mu (notTab_ns hs.ok.tabs n) hsb (let ⟨o, _, _, e, _⟩ := n'; ⟨o, e⟩), fun a o e => (hsb.2 a fun q => H.kp o (q ▸ e)).trans (hs.kept a o e), hs.since.trans (Since.sameBut (notTab_ns hs.ok.tabs n) hsb (let ⟨o, _, _, e, _⟩ := n'; ⟨o, e⟩)), fun y c e => let ⟨v, hc⟩ := hs.cells y c e; ⟨v, hc.sameBut hsb (ns_ne_cell n hc)⟩, _, n', hh⟩
theorem St.stepX2 (H : FOK F) {s s' : Shared} {X : Addr → Prop} {m : Str → Option Value} {ρ' : Rho} (hs : St C F ρ s) (hX : ∀ a, X a → F.own a) (nn : s.heap.Ns F.env.locals m) (hXL : ¬ X F.env.locals) (hXc : ∀ a, X a → ∀ v, ¬ s.heap.IsCell a v) (y : StepX X s s') (hh : ∀ p ∈ ρ', Has F s'.heap m p.1 p.2) : St C F ρ' s' := by
  have kp : ∀ a o, ¬ isTab a → ¬ X a → s.heap.get? a = some o → s'.heap.get? a = some o := y.keep
  refine ⟨⟨fun a o q => ?_, hs.ok.hb, y.tabs.1, y.gens.trans hs.ok.gens, y.os.trans hs.ok.os, fun a ha => ?_, hs.ok.tab, fun P l1 l2 c' hP q => ?_⟩, fun a o q => kp a o (H.nt a o q) (fun z => H.ownKp a o q (hX a z)) (hs.kept a o q), hs.since.trans ⟨y.live, y.tabs.2⟩, fun x c q => ?_, m, ?_, hh⟩
  · exact kp a o (fun t => hs.ok.hb a o q (hs.ok.tab a t)) (fun z => hs.ok.hb a o q (H.ownMu a (hX a z))) (hs.ok.keep a o q)
  · obtain ⟨o, q⟩ := hs.ok.live a ha; exact y.live a o q
  · rcases y.tabs.2 P hP with q2 | ⟨m1, m2, c₂, nt, f, q2⟩
    · exact hs.ok.code P l1 l2 c' hP (q2 ▸ q)
    · rw [q2] at q
      have : c₂ = c' := by simp [tabObj] at q; exact q.2.2
      subst this
      intro hm
      obtain ⟨o, q3⟩ := hs.ok.live _ hm
      rw [q3] at f; cases f
  · obtain ⟨v, hv⟩ := hs.cells x c q
    have nt := notTab_cell hs.ok.tabs hv
    have ne : ¬ X c := fun z => hXc c z v hv
    obtain ⟨o, e2, hd⟩ := hv
    exact ⟨v, o, kp c o nt ne e2, hd⟩
  · have nt := notTab_ns hs.ok.tabs nn
    obtain ⟨o, es, ep, q, rr⟩ := nn; exact ⟨o, es, ep, kp _ _ nt hXL q, rr⟩
noncomputable def Fn.addOwns (F : Fn) (X : Addr → Prop) : Fn := { F with Mu := fun a => F.Mu a ∨ X a, own := fun a => F.own a ∨ X a }
theorem FOK.adds {F : Fn} (H : FOK F) {X : Addr → Prop} (h2 : ∀ a o, F.Kp a o → ¬ X a) : FOK (F.addOwns X) :=
  ⟨⟨H.kind, .inl H.ownL, fun a h => h.elim (fun h => .inl (H.ownMu a h)) .inr, fun a o e h => h.elim (H.ownKp a o e) (h2 a o e), H.glob, H.bi⟩, H.nt⟩
theorem St.addOwns {s s' : Shared} {X : Addr → Prop} (H : FOK F) (hs : St C F ρ s) (y : Step s s') (hn : ∀ a, X a → s.heap.get? a = none) (hl : ∀ a, X a → ∃ o, s'.heap.get? a = some o) (hc : ∀ a, X a → ∀ q, ¬ s'.heap.CodeRec (.ref a) q) : St C (F.addOwns X) ρ s' := by
  have hg : St C (F.grow X) ρ s' := hs.ingrow H y hn hl hc
  obtain ⟨m, nn, hh⟩ := hg.fr
  exact ⟨hg.ok, hg.kept, hg.since, hg.cells, m, nn, fun p hp => (hh p hp).mono (F := F.grow X) (F₂ := F.addOwns X) rfl (fun _ _ v => v) (fun a o w _ e => ⟨.inl w, e⟩) fun _ _ _ e => e⟩
end
theorem Ns.get1 {h : Heap} {a : Addr} {m : Str → Option Value} (x : h.Ns a m) : ∃ o, h.get? a = some o ∧ (∀ vs, o.data ≠ .fields vs) ∧ ∀ its n, o.data ≠ .seq its n := by
  obtain ⟨o, es, ep, e, hd, _⟩ := x
  exact ⟨o, e, (fun vs q => by rw [hd] at q; cases q), (fun vs n q => by rw [hd] at q; cases q)⟩
theorem ns_ne {h : Heap} {a : Addr} {m : Str → Option Value} {o : Obj} (x : h.Ns a m) (e : h.get? a = some o) : (∀ vs, o.data ≠ .fields vs) ∧ ∀ its n, o.data ≠ .seq its n := by
  obtain ⟨o', e', h1, h2⟩ := Ns.get1 x
  rw [e] at e'; cases e'; exact ⟨h1, h2⟩
theorem iter_mem : ((Str.ofString "iter" : Str), Value.builtin "iter") ∈ biList := by decide
section
variable {C : Base} {k : Nat} {F : Fn} {prog : Program} {A : Around} {Q : Flow → Shared → Prop} {E : Value → Shared → Prop} {rest : List Stmt}
theorem call_iter {w : World} {s : Shared} {l : Addr} {items : Array Value} {Q : Value → Shared → Prop} {E : Value → Shared → Prop} (hl : s.heap.IsList l items)
    (h : Q (.ref s.heap.objs.size) { s with heap := s.heap.push { cls := .type "list_iterator", data := .fields #[.ref l, .int 0 0] } }) : wpAny (model prog w) A (call (.builtin "iter") [.ref l]) Q E s := by
  refine PySem.Calls.call_function_entry (by decide +kernel) (by decide +kernel) kdk_entry_iter (kdk_args_iter _) ?_
  unfold Builtin.«iter»
  refine wpAny_bind (m := someArgs "iter" 1 2 _) (wpAny_of_eq (a := [Value.ref l]) (by first | rfl | kernel_rfl) ?_)
  show wpAny _ _ (pyIter (.ref l) >>= _) _ _ _
  exact wpAny_bind (wpAny_pyIter_list hl (wpAny_pure ⟨_, rfl, h⟩))
theorem ref_notCode {h : Heap} {a : Addr} {o : Obj} (e : h.get? a = some o) (hd : ∀ vs q t, o.data = .fields vs → vs[1]? ≠ some (.str q t)) : ∀ q, ¬ h.CodeRec (.ref a) q := notCode e hd
theorem sym_start (H : FOK F) (hsc : F.env.scope = sc (stmtAt 69)) {ts : List Expr} {n : Nat} {tp pos lp cp np : Pos} {m2 : Nat} {tp2 : Pos} {e : Expr} {ds : List Int} {ρ : Rho} (hA : Rm k A) (he : ∀ F₂, FOK F₂ → F₂.env = F.env → EV C k F₂ ρ e (.list (ds.map .int)))
    (h : ∀ X : Addr → Prop, (∀ a, X a → F.h₀.get? a = none ∧ ¬ F.Mu a) → FOK (F.addOwns X) → XS prog C A (F.addOwns X) [("symbols", .own []), ("octets", .itr (ds.map .int))] rest Q E)
    (hs : swapsWithSole [.Tuple ts n tp] (.Tuple [.List [] lp, .Call (.Name "iter" np) [e] [] cp] m2 tp2) pos.line F.env = pure false) (hw : swappedStores [.Tuple ts n tp] (.Tuple [.List [] lp, .Call (.Name "iter" np) [e] [] cp] m2 tp2) F.env = pure (some [Str.ofString "symbols", Str.ofString "octets"]))
    (h1 : starEach [.List [] lp, .Call (.Name "iter" np) [e] [] cp] F.env = (false, eval (.List [] lp) F.env) :: starEach [.Call (.Name "iter" np) [e] [] cp] F.env := by rfl) (h2 : starEach [.Call (.Name "iter" np) [e] [] cp] F.env = (false, eval (.Call (.Name "iter" np) [e] [] cp) F.env) :: starEach [] F.env := by rfl)
    (h3 : starEach [e] F.env = (false, eval e F.env) :: starEach [] F.env := by rfl) (hp : (backTo cp (starEach [] F.env)).any (·.1) = false := by rfl) :
    XS prog C A F ρ (.Assign [.Tuple ts n tp] (.Tuple [.List [] lp, .Call (.Name "iter" np) [e] [] cp] m2 tp2) pos :: rest) Q E := by
  intro s hs0
  refine wpAny_execs_cons (Assign_Tuple_swapped (Tuple_ (spliced_more (List_ (spliced_none (wpAny_newObj_type ?_ (by show (0 : Nat) ≤ _; exact Nat.zero_le _)))) h1)) hs hw)
  generalize hl : s.heap.objs.size = l
  have y1 : Step s { s with heap := s.heap.push (listO [] 0) } := Step.push'
  have hs1 := hs0.step y1 H.nt
  have gl : s.heap.get? l = none := hl ▸ fresh_none _
  have gl1 : (s.heap.push (listO [] 0)).get? l = some (listO [] 0) := hl ▸ Heap.get?_push_size _ rfl
  have ntl : ¬ isTab l := fun t => by obtain ⟨o, q⟩ := tab_live hs0.ok.tabs l t; rw [gl] at q; cases q
  refine spliced_more (wpAny_Call_NameR (Calls.Name_function_global H.kind (kd hsc (by decide +kernel)) (Calls.loadGlobal_builtin (hs1.mg H) (C.bi _ iter_mem).1 (hs1.mb H) (C.bi _ iter_mem).2 ?_) (by decide +kernel))) h2
  have HX1 : FOK (F.addOwns (· = l)) := H.adds fun a o e w => by have := hs0.kept a o e; rw [w, gl] at this; cases this
  have hs1' : St C (F.addOwns (· = l)) ρ { s with heap := s.heap.push (listO [] 0) } := hs0.addOwns H y1 (fun a w => w ▸ gl) (fun a w => w ▸ ⟨_, gl1⟩) fun a w => w ▸ ref_notCode gl1 (fun vs q t e => by cases e)
  refine callWith_builtin1 (spliced_more ((he _ HX1 rfl).run _ _ _ _ _ hA hs1' fun v s2 y2 r2 => spliced_none ?_) h3) h3 hp
  obtain ⟨L2, n2, us, rfl, x2, q2⟩ := r2.list_i
  refine call_iter (isList_of x2.2) (spliced_none ?_)
  generalize hI : s2.heap.objs.size = I
  have y12 : Step s s2 := y1.trans y2
  have gI : s2.heap.get? I = none := hI ▸ fresh_none _
  have gI0 : s.heap.get? I = none := y12.none_of hs0.ok.tabs gI
  have gl2 : s2.heap.get? l = some (listO [] 0) := y2.keep l _ ntl gl1
  have hlI : l ≠ I := fun q => by rw [q, gI] at gl2; cases gl2
  have hL2I : L2 ≠ I := fun q => by have := x2.2; rw [q, gI] at this; cases this
  refine wpAny_newTuple ?_ (by rw [sizeLine_eq]; exact Nat.le_of_ble_eq_true rfl)
  have y3 : Step s2 { s2 with heap := (s2.heap.push { cls := .type "list_iterator", data := .fields #[.ref L2, .int 0 0] }).push { cls := .type "tuple", data := .seq [.ref l, .ref I].toArray } } := Step.of fun a o q => Heap.get?_push_of_some _ (Heap.get?_push_of_some _ q)
  refine unpackItems_tuple (items := #[.ref l, .ref I]) hA.1 ⟨_, Heap.get?_push_size _ rfl, rfl, _, rfl⟩ fun h' hx => ?_
  have hx' : ∀ a o, ((s2.heap.push { cls := .type "list_iterator", data := .fields #[.ref L2, .int 0 0] }).push { cls := .type "tuple", data := .seq [.ref l, .ref I].toArray }).get? a = some o → h'.get? a = some o := fun a o e => hx a o (Nat.ne_of_lt (Heap.lt_size e)) e
  have ky : ∀ a o, s2.heap.get? a = some o → h'.get? a = some o := fun a o q => hx' a o (Heap.get?_push_of_some _ (Heap.get?_push_of_some _ q))
  have y5 : Step s { s2 with heap := h', toks := s2.toks } := y12.trans (Step.of ky)
  have gI5 : h'.get? I = some { cls := .type "list_iterator", data := .fields #[.ref L2, .int 0 0] } := hx' _ _ (Heap.get?_push_of_some _ (hI ▸ Heap.get?_push_size _ rfl))
  have gl5 : h'.get? l = some (listO [] 0) := ky _ _ gl2
  have gL5 := ky _ _ x2.2
  let X : Addr → Prop := fun a => a = l ∨ a = I
  have hXn : ∀ a, X a → s.heap.get? a = none := fun a h => h.elim (fun q => q ▸ gl) fun q => q ▸ gI0
  have HX : FOK (F.addOwns X) := H.adds fun a o e w => by have := hs0.kept a o e; rw [hXn a w] at this; cases this
  have hs5 : St C (F.addOwns X) ρ { s2 with heap := h', toks := s2.toks } := hs0.addOwns H y5 hXn (fun a w => w.elim (fun q => q ▸ ⟨_, gl5⟩) fun q => q ▸ ⟨_, gI5⟩) fun a w => w.elim (fun q => q ▸ ref_notCode gl5 (fun vs q t e => by cases e)) fun q => q ▸ ref_notCode gI5 (fun vs q t e => by cases e; intro h; cases h)
  obtain ⟨m, nn, hh⟩ := hs5.fr
  have kO : (F.addOwns X).env.kindOf "octets" = some .local := kd hsc (by decide +kernel)
  have kS : (F.addOwns X).env.kindOf "symbols" = some .local := kd hsc (by decide +kernel)
  refine assignInOrder_cons (bindName_ (wpAny_storeName_local kO nn (fun h1 n1 sb1 => ?_) (by rw [H.kind]; rfl)))
  refine assignInOrder_cons (bindName_ (wpAny_storeName_local kS n1 (fun h2 n2 sb2 => ?_) (by rw [H.kind]; rfl)))
  have sb : Heap.SameBut F.env.locals h' h2 := sb1.trans sb2
  have hLX : ∀ a, X a → F.env.locals ≠ a := fun a w q => by
    obtain ⟨o, q2⟩ := hs0.ok.live _ H.mu
    rw [q, hXn a w] at q2; cases q2
  refine wpAny_pure (h X (fun a w => ⟨?_, fun hm => ?_⟩) HX _ (hs5.setNs (tk := _) HX sb n2 fun p hp => ?_))
  · cases q : F.h₀.get? a with
    | none => rfl
    | some o => obtain ⟨o', q2⟩ := hs0.since.live a o q; rw [hXn a w] at q2; cases q2
  · obtain ⟨o, q2⟩ := hs0.ok.live a hm; rw [hXn a w] at q2; cases q2
  · rcases List.mem_cons.mp hp with rfl | hp
    · exact ⟨.ref l, ⟨l, [], 0, rfl, .inr (.inl rfl), (sb.2 l (hLX l (.inl rfl)).symm).trans gl5, .nil⟩, .inl ⟨kS, by simp⟩⟩
    · rw [List.mem_singleton.mp hp]
      have hL2 : ¬ (F.addOwns X).Mu L2 := fun hm => hm.elim (fun h => x2.1 (.inl h)) fun w => w.elim (fun q => x2.1 (.inr q)) hL2I
      have hLL : L2 ≠ F.env.locals := fun q => x2.1 (.inl (q ▸ H.mu))
      refine ⟨.ref I, ⟨I, L2, 0, us, _, rfl, .inr (.inr rfl), ⟨_, (sb.2 I (hLX I (.inr rfl)).symm).trans gI5, rfl, rfl⟩, ⟨hL2, (sb.2 L2 hLL).trans gL5⟩, ?_⟩, .inl ⟨kO, ?_⟩⟩
      · exact q2.flat (by simp [D.flat])
      · show (if (Str.ofString "octets") = Str.ofString "symbols" then some (Value.ref l) else if (Str.ofString "octets") = Str.ofString "octets" then some (Value.ref I) else m _) = _
        rw [if_neg (by decide +kernel), if_pos rfl]
noncomputable abbrev symR (acc ds : List Int) : Rho := [("symbols", .own (acc.map .int)), ("octets", .itr (ds.map .int))]
structure SymAt (C : Base) (F : Fn) (outer : List Env) (acc : List Int) (s s' : Shared) (e : Addr) : Prop where
  st : St C F [] s
  at_ : ∃ (I l : Addr) (vs : List Value) (n : Nat) (m : Str → Option Value) (sr s₂ : Shared), F.own I ∧ F.env.locals ≠ I ∧ l ≠ I ∧ F.env.locals ≠ l ∧ F.own l ∧ s.heap.get? l = some (listO vs n) ∧ RepL (vis F.Mu s.heap) vs (acc.map .int) ∧ s.heap.Ns F.env.locals m ∧ m "symbols" = some (.ref l) ∧
    ¬ isTab I ∧ (∀ a m, s.heap.Ns a m → a ≠ I) ∧ StepX (· = I) s s₂ ∧ OK C F.Mu s₂ ∧ (∃ Lp, s.heap.get? Lp = none ∧ (∃ m, s₂.heap.Ns Lp m) ∧ ∀ a o, a ≠ Lp → s₂.heap.get? a = some o → sr.heap.get? a = some o) ∧ sr.gens = s₂.gens ∧ sr.os = s₂.os ∧ Raised outer I sr s' e
theorem sym_append (G : PG C) (H : FOK F) (hsc : F.env.scope = sc (stmtAt 69)) (hA : Rm (k + 1) A) {outer : List Env} (hfr : A.frames = some outer) {acc ds : List Int} (hd : ∀ d ∈ ds, 0 ≤ d) (hlen : ds.length ≤ 2 ^ 12) (hFA : ∀ s, St C F [] s → FramesAt outer s.heap) (hacc : acc.length < 2 ^ 20) {p1 p2 p3 p4 pa pc pos : Pos}
    (h : ∀ v r, parseV ds = some (v, r) → XS prog C A F (symR (acc ++ [v]) r) rest Q E) (hE : parseV ds = none → ∀ s s' e, SymAt C F outer acc s s' e → E (.ref e) s')
    {pl : Sem Bool} (he' : eval (.Call (.Attribute (.Name "symbols" p1) "append" pa) [.Call (.Name "_parse_varint" p2) [.Name "octets" p3] [] p4] [] pc) F.env = (do
      let ov ← eval (.Name "symbols" p1) F.env
      standAt pa.atName
      let (f, first) ← holding [ov] (getMethod ov "append" pl)
      callWith pc f first (backTo pc (starEach [.Call (.Name "_parse_varint" p2) [.Name "octets" p3] [] p4] F.env)) []) := by rfl)
    (hp : (backTo pc (starEach [.Call (.Name "_parse_varint" p2) [.Name "octets" p3] [] p4] F.env)) = [(false, eval (.Call (.Name "_parse_varint" p2) [.Name "octets" p3] [] p4) F.env)] := by rfl) (h4 : starEach [.Name "octets" p3] F.env = (false, eval (.Name "octets" p3) F.env) :: starEach [] F.env := by rfl) :
    XS prog C A F (symR acc ds) (.Expr (.Call (.Attribute (.Name "symbols" p1) "append" pa) [.Call (.Name "_parse_varint" p2) [.Name "octets" p3] [] p4] [] pc) pos :: rest) Q E := by
  intro s hs
  have kS : F.env.kindOf "symbols" = some .local := kd hsc (by decide +kernel)
  have kO : F.env.kindOf "octets" = some .local := kd hsc (by decide +kernel)
  obtain ⟨m, nn, hh⟩ := hs.fr
  obtain ⟨v, ⟨l, vs, n, rfl, wl, el, rl⟩, aS⟩ := hh _ (List.Mem.head _)
  obtain ⟨v, ⟨I, L2, i, us, n2, rfl, wI, eI, xL, rI⟩, aO⟩ := hh _ (List.Mem.tail _ (List.Mem.head _))
  have mS : m "symbols" = some (.ref l) := aS.elim (fun q => q.2) fun ⟨q, _⟩ => q.elim (fun q => by rw [kS] at q; cases q) fun q => by rw [kS] at q; cases q.1
  have hlI : l ≠ I := fun q => by
    obtain ⟨o', e1, e2, _⟩ := eI
    rw [← q, el] at e1; cases e1; simp [listO] at e2
  have hLI : F.env.locals ≠ I := fun q => by
    obtain ⟨o, es, ep, e2, hd, _⟩ := nn
    obtain ⟨o', e1, _, e3⟩ := eI
    rw [q, e1] at e2; cases e2; rw [e3] at hd; cases hd
  have hLl : F.env.locals ≠ l := fun q => by
    obtain ⟨o, es, ep, e2, hd, _⟩ := nn
    rw [q, el] at e2; cases e2; cases hd
  refine wpAny_execs_cons (wpAny_Expr_any (MethodCall_ (pl := pl) (wpAny_Name ?_ (by decide +kernel)) he') (by unfold interactive; rw [H.kind]; rfl))
  refine wpAny_loadName_local H.kind kS nn mS (Calls.getMethod_list_append el rfl rfl ?_)
  rw [hp]
  refine P.append_list ?_
  obtain ⟨pm, hfd⟩ := G.fd (70, 12, 69) (by decide)
  obtain ⟨o, hobj, hdat, hcd⟩ := C.fn _ _ hfd
  refine wpAny_Call_NameR (Calls.Name_function_global H.kind (kd hsc (by decide +kernel)) (Calls.loadGlobal_global (hs.mg H) (G.mg ("_parse_varint", 70) (by decide)) ?_) (by decide +kernel))
  refine callWith_def hdat (spliced_more (At.load H nn aO (by decide +kernel) (spliced_none ⟨hs.ok.keep _ _ hobj, ?_⟩)) h4) h4
  refine parse_call G hA hfr hs.ok (H.ownMu I wI) eI xL rI hd hlen (hFA s (hs.weaken fun _ h => nomatch h)) (fun v r s' t hp sx hI => ?_) fun hp s' sr s₂ e sx ok2 h1 h2 h3 hR => hE hp s s' e ⟨hs.weaken (fun _ h => nomatch h), ⟨I, l, vs, n, m, sr, s₂, wI, hLI, hlI, hLl, wl, el, rl, nn, mS, iter_notTab hs.ok.tabs eI, (fun a m' x q => by obtain ⟨o', e1, _, e3⟩ := eI; exact (ns_ne x (q ▸ e1)).1 _ e3), sx, ok2, h1, h2, h3, hR⟩⟩
  have el' : s'.heap.get? l = some (listO vs n) := sx.keep l _ (notTab_seq hs.ok.tabs el rfl) hlI el
  refine ⟨vs.toArray, n, by rw [sizeLine_eq]; have := rl.length; simp at this ⊢; omega, el', h v r hp _ ?_⟩
  obtain ⟨n', e3⟩ : ∃ n', (s'.heap.update l (Obj.mapSeq fun xs => xs.push (Value.int v t))).get? l = some (listO (vs ++ [.int v t]) n') := ⟨_, by have := IsL.update (n := n) el' (fun xs => xs.push (Value.int v t)); rw [List.push_toArray] at this; exact this⟩
  have sbl : Heap.SameBut l s'.heap (s'.heap.update l (Obj.mapSeq fun xs => xs.push (Value.int v t))) := Heap.SameBut.update ..
  generalize (s'.heap.update l (Obj.mapSeq fun xs => xs.push (Value.int v t))) = hf at e3 sbl
  have ntl := notTab_seq hs.ok.tabs el rfl
  have ntI := iter_notTab hs.ok.tabs eI
  have tb : ∀ P, isTab P → hf.get? P = s'.heap.get? P := fun P hP => sbl.2 P fun q => ntl (q ▸ hP)
  have y : StepX (fun a => a = I ∨ a = l) s { s' with heap := hf } := by
    refine ⟨fun a o nt nx e => (sbl.2 a fun q => nx (.inr q)).trans (sx.keep a o nt (fun q => nx (.inl q)) e), fun a o e => ?_, ⟨?_, fun P hP => ?_⟩, sx.gens, sx.os⟩
    · obtain ⟨o', e'⟩ := sx.live a o e
      by_cases q : a = l
      · exact ⟨_, q ▸ e3⟩
      · exact ⟨o', (sbl.2 a q).trans e'⟩
    · have one : ∀ (P line col : Nat) (q : Str), isTab P → TabOK P line col q s'.heap → TabOK P line col q hf := fun P line col q hP t => by
        rcases t with e | ⟨c', nt, e, r⟩
        · exact .inl ((tb P hP).trans e)
        · obtain ⟨c₂, oc, ws, tq, e1, e2, e3, e4⟩ := r
          cases e1
          refine .inr ⟨c', nt, (tb P hP).trans e, c', oc, ws, tq, rfl, (sbl.2 c' fun z => ?_).trans e2, e3, e4⟩
          rw [z, el'] at e2; cases e2; cases e3
      exact ⟨one _ _ _ _ (.inl rfl) sx.tabs.1.t1, one _ _ _ _ (.inr rfl) sx.tabs.1.t2⟩
    · rcases sx.tabs.2 P hP with e | ⟨l1, l2, c', n, f, e⟩
      · exact .inl ((tb P hP).trans e)
      · exact .inr ⟨l1, l2, c', n, f, (tb P hP).trans e⟩
  obtain ⟨L3, i3, ws, n3, e5, x5, r5⟩ : ∃ L3 i3 ws n3, s'.heap.IsListIter I L3 i3 ∧ vis F.Mu s'.heap L3 (listO ws n3) ∧ RepL (vis F.Mu s'.heap) (ws.drop i3) (r.map .int) := hI
  refine hs.stepX2 H (X := fun a => a = I ∨ a = l) (fun a w => w.elim (fun q => q ▸ wI) fun q => q ▸ wl) nn (fun w => w.elim hLI hLl) (fun a w v ⟨o, e1, e2⟩ => ?_) y fun p hp => ?_
  · rcases w with rfl | rfl
    · obtain ⟨o', e3, _, e4⟩ := eI
      rw [e1] at e3; cases e3; rw [e2] at e4; cases e4
    · rw [el] at e1; cases e1; cases e2
  · rcases List.mem_cons.mp hp with rfl | hp
    · refine ⟨.ref l, ⟨l, vs ++ [.int v t], n', rfl, wl, e3, ?_⟩, .inl ⟨kS, mS⟩⟩
      rw [List.map_append]
      exact (rl.flat (by simp [D.flat])).append (.cons (.int _ _) .nil)
    · rw [List.mem_singleton.mp hp]
      have mO : m "octets" = some (.ref I) := aO.elim (fun q => q.2) fun ⟨q, _⟩ => q.elim (fun q => by rw [kO] at q; cases q) fun q => by rw [kO] at q; cases q.1
      refine ⟨.ref I, ⟨I, L3, i3, ws, n3, rfl, wI, ?_, ⟨x5.1, (sbl.2 L3 fun q => x5.1 (q ▸ H.ownMu l wl)).trans x5.2⟩, r5.flat (by simp [D.flat])⟩, .inl ⟨kO, mO⟩⟩
      obtain ⟨o', e1, e2, e3'⟩ := e5
      exact ⟨o', (sbl.2 I (Ne.symm hlI)).trans e1, e2, e3'⟩
theorem stop_mem : ((Str.ofString "StopIteration" : Str), Value.type "StopIteration") ∈ biList := by decide
theorem stop_exc : isSubtype (.type "StopIteration") (.type "BaseException") = pure true := by rw [isSubtype_type]; kernel_rfl
theorem stop_self : isSubtype (.type "StopIteration") (.type "StopIteration") = pure true := by rw [isSubtype_type]; kernel_rfl
theorem stop_meta : isSubtype (.type ((Manifest.find? "StopIteration").elim "type" fun x => x.metatype)) (.type "tuple") = pure false := by rw [isSubtype_type]; kernel_rfl
structure SymEnd (outer : List Env) (I : Addr) (s s₄ : Shared) : Prop where
  keep : ∀ a o, ¬ isTab a → a ≠ I → a ∉ framesOf outer → s.heap.get? a = some o → s₄.heap.get? a = some o
  ns : ∀ a m, s.heap.Ns a m → s₄.heap.Ns a m
  tabs : TabsOK s₄.heap ∧ TabC s.heap s₄.heap
  gens : s₄.gens = s.gens
  os : s₄.os = s.os
theorem sym_catch (H : FOK F) (hsc : F.env.scope = sc (stmtAt 69)) {outer : List Env} (hfr : A.frames = some (F.env :: outer)) (hfm : F.env.frame = some F.env.locals) {acc : List Int} {s s' : Shared} {e : Addr} (S : SymAt C F (F.env :: outer) acc s s' e) (hFA : FramesAt outer s.heap) (hMu : ∀ a ∈ framesOf outer, F.Mu a) (hol : ∀ a ∈ framesOf outer, ¬ F.own a) {tp np rp hp : Pos} {E : Value → Shared → Prop}
    (hQ : ∀ s₄ I l vs n, F.own I → F.env.locals ≠ I → F.own l → SymEnd (F.env :: outer) I s s₄ → s₄.heap.get? l = some (listO vs n) → RepL (vis F.Mu s.heap) vs (acc.map .int) → Q (.ret (.ref l)) s₄) :
    wpAny (model prog C.w) A (noteFrame (.ref e) F.env) (fun _ s₂ => wpAny (model prog C.w) A (setFlight (.ref e) none) (fun _ s₃ => wpAny (model prog C.w) A (handleBy (.ref e) F.env [.ExceptHandler (some (.Name "StopIteration" tp)) none [.Return (some (.Name "symbols" np)) rp] hp]) Q E s₃) E s₂) E s' := by
  obtain ⟨st, I, l, vs, n, m, sr, s₂, wI, hLI, hlI, hLl, wl, el, rl, nn, mS, ntI, nI, sx, ok2, ⟨Lp, fL, ⟨mp, nLp⟩, ksr⟩, g1, g2, hR⟩ := S
  obtain ⟨a0, base, fly, hbase⟩ := hR.fly
  have kS : F.env.kindOf "symbols" = some .local := kd hsc (by decide +kernel)
  have ns2 : ∀ a m, s.heap.Ns a m → s₂.heap.Ns a m := fun a m' x => by
    have h1 := notTab_ns st.ok.tabs x
    have h2 := nI a m' x
    obtain ⟨o, es, ep, e, r⟩ := x
    exact ⟨o, es, ep, sx.keep a o h1 h2 e, r⟩
  have nsr : ∀ a m, s.heap.Ns a m → sr.heap.Ns a m := fun a m' x => by
    have hL : a ≠ Lp := fun q => by
      obtain ⟨o, es, ep, e, r⟩ := x
      rw [q, fL] at e; cases e
    obtain ⟨o, es, ep, e, r⟩ := ns2 a m' x
    exact ⟨o, es, ep, ksr a o hL e, r⟩
  have fr : ∀ a ∈ framesOf (F.env :: outer), (∃ m, s.heap.Ns a m) ∧ F.Mu a := fun a ha => by
    unfold framesOf at ha
    rw [List.filterMap_cons, hfm] at ha
    rcases List.mem_cons.mp ha with rfl | ha
    · exact ⟨⟨m, nn⟩, H.mu⟩
    · obtain ⟨env, he, e2⟩ := List.mem_filterMap.mp ha
      obtain ⟨_, L, m', h2, h3⟩ := hFA env he
      rw [h2] at e2; cases e2
      exact ⟨⟨m', h3⟩, hMu a ha⟩
  refine wpAny_looks_onW hfr hfm fly fun h1 hheld up1 => ?_
  refine wpAny_landsW hheld fun h2 hfly2 up2 => ?_
  have ns4 : ∀ a m, s.heap.Ns a m → h2.Ns a m := fun a m x => up2.ns (up1.ns (hR.ns a m (nsr a m x)))
  have hmg : h2.Ns F.env.globals C.mg := ns4 _ _ (st.mg H)
  have hmb : h2.Ns F.env.builtins C.mb := ns4 _ _ (st.mb H)
  refine wpAny_handleBy_builtin (X := "StopIteration") (T := "StopIteration") (b := true) stop_exc stop_meta stop_self ?_
  refine Calls.Name_function_global H.kind (kd hsc (by decide +kernel)) (Calls.loadGlobal_builtin hmg (C.bi _ stop_mem).1 hmb (C.bi _ stop_mem).2 ⟨rfl, hfly2.there, ?_⟩) (by decide +kernel)
  rw [if_pos rfl]
  obtain ⟨f1, f2, f3, f4⟩ := hfly2
  refine wpAny_setFlight_noneW (fl := .none) f1 f3 f4.at fun h3 k1 k2 k3 k4 => ?_
  have ns5 : ∀ a m, s.heap.Ns a m → h3.Ns a m := fun a m x => by
    have y := ns4 a m x
    have z := fun o (e : h2.get? a = some o) => ns_ne y e
    obtain ⟨o, es, ep, e, r⟩ := y
    exact ⟨o, es, ep, k4 a o e (z o e).1, r⟩
  have kp : ∀ a o, a ≠ I → a ∉ framesOf (F.env :: outer) → a ≠ Lp → s₂.heap.get? a = some o → h3.get? a = some o := fun a o q1 q2 q3 q4 => k1 a o (hbase a o q1 q2 (ksr a o q3 q4))
  have lv : ∀ a o, s.heap.get? a = some o → a ≠ Lp := fun a o e q => by rw [q, fL] at e; cases e
  have tb : ∀ P, isTab P → h3.get? P = s₂.heap.get? P := fun P hP => by
    obtain ⟨ws, e⟩ := tab_fields sx.tabs.1 hP
    refine (kp P _ (fun q => ntI (q ▸ hP)) (fun q => ?_) (fun q => ?_) e).trans e.symm
    · obtain ⟨⟨m', x⟩, _⟩ := fr P q
      exact notTab_ns st.ok.tabs x hP
    · rw [q] at e
      exact (ns_ne nLp e).1 _ rfl
  have one : ∀ (P line col : Nat) (q : Str), isTab P → TabOK P line col q s₂.heap → TabOK P line col q h3 := fun P line col q hP t => by
    rcases t with e | ⟨c', nt, e, r⟩
    · exact .inl ((tb P hP).trans e)
    · have nM := ok2.code P _ _ c' hP e
      obtain ⟨c₂, oc, ws, tq, e1, e2, e3, e4⟩ := r
      cases e1
      refine .inr ⟨c', nt, (tb P hP).trans e, c', oc, ws, tq, rfl, kp c' oc (fun q => nM (q ▸ H.ownMu I wI)) (fun q => nM (fr c' q).2) (fun q => ?_) e2, e3, e4⟩
      rw [q] at e2
      exact (ns_ne nLp e2).1 _ e3
  refine wpAny_execs_cons (wpAny_Return_some (wpAny_Name (wpAny_loadName_local H.kind kS (ns5 _ _ nn) mS ?_) (by decide +kernel)))
  have lF : l ∉ framesOf (F.env :: outer) := fun q => by
    obtain ⟨⟨m', x⟩, _⟩ := fr l q
    exact (ns_ne x el).2 _ _ rfl
  refine hQ _ I l vs n wI hLI wl ⟨fun a o nt q1 q2 e => kp a o q1 q2 (lv a o e) (sx.keep a o nt q1 e), ns5, ⟨⟨one _ _ _ _ (.inl rfl) sx.tabs.1.t1, one _ _ _ _ (.inr rfl) sx.tabs.1.t2⟩, fun P hP => ?_⟩, ?_, ?_⟩ (kp l _ hlI lF (lv l _ el) (sx.keep l _ (notTab_seq st.ok.tabs el rfl) hlI el)) rl
  · rcases sx.tabs.2 P hP with e | ⟨l1, l2, c', nt, f, e⟩
    · exact .inl ((tb P hP).trans e)
    · exact .inr ⟨l1, l2, c', nt, f, (tb P hP).trans e⟩
  · exact hR.rest.1.trans (g1.trans sx.gens)
  · exact hR.rest.2.trans (g2.trans sx.os)
end
inductive Runs : List Int → List Int → Prop
  | stop {ds : List Int} : parseV ds = none → Runs ds []
  | step {ds r out : List Int} {v : Int} : parseV ds = some (v, r) → Runs r out → Runs ds (v :: out)
noncomputable def dsNext (ds : List Int) : List Int := match parseV ds with | some (_, r) => r | none => []
noncomputable def dsAt (ds : List Int) : Nat → List Int
  | 0 => ds
  | i + 1 => dsNext (dsAt ds i)
theorem pv_sub : ∀ {l : List Int} {v b : Int} {x : Int} {r : List Int}, pv v b l = some (x, r) → (∀ d ∈ r, d ∈ l) ∧ r.length ≤ l.length
  | [], v, b, x, r, h => by
    rw [pv] at h
    split at h
    · cases h
    · cases h; exact ⟨fun d h => h, Nat.le_refl _⟩
  | b' :: l, v, b, x, r, h => by
    rw [pv] at h
    split at h
    · obtain ⟨h1, h2⟩ := pv_sub h
      exact ⟨fun d hd => List.mem_cons_of_mem _ (h1 d hd), by rw [List.length_cons]; omega⟩
    · cases h; exact ⟨fun d h => h, Nat.le_refl _⟩
theorem parseV_sub {l : List Int} {x : Int} {r : List Int} (h : parseV l = some (x, r)) : (∀ d ∈ r, d ∈ l) ∧ r.length ≤ l.length := by
  cases l with
  | nil => cases h
  | cons b l =>
    obtain ⟨h1, h2⟩ := pv_sub (show pv (b % 64) b l = some (x, r) from h)
    exact ⟨fun d hd => List.mem_cons_of_mem _ (h1 d hd), by rw [List.length_cons]; omega⟩
structure SInv (ds out : List Int) (i : Nat) : Prop where
  run : Runs (dsAt ds i) (out.drop i)
  le : i ≤ out.length
  pos : ∀ d ∈ dsAt ds i, 0 ≤ d
  len : (dsAt ds i).length ≤ 2 ^ 12
theorem SInv.next {ds out : List Int} {i : Nat} (S : SInv ds out i) {v : Int} {r : List Int} (h : parseV (dsAt ds i) = some (v, r)) : SInv ds out (i + 1) ∧ dsAt ds (i + 1) = r ∧ out.take (i + 1) = out.take i ++ [v] := by
  have e : dsAt ds (i + 1) = r := by
    show dsNext (dsAt ds i) = r
    unfold dsNext; rw [h]
  obtain ⟨s1, s2, s3, s4⟩ := S
  generalize hx : out.drop i = x at s1
  cases s1 with
  | stop q => rw [h] at q; cases q
  | @step _ r' out' v' q q2 =>
    rw [h] at q; cases q
    have hd : out.drop (i + 1) = out' := by
      have := congrArg (List.drop 1) hx
      simpa [List.drop_drop] using this
    have hg : out[i]? = some v := by
      have := congrArg (·[0]?) hx
      simpa [List.getElem?_drop] using this
    have hlt := (List.getElem?_eq_some_iff.mp hg).1
    obtain ⟨p1, p2⟩ := parseV_sub h
    refine ⟨⟨by rw [e, hd]; exact q2, hlt, by rw [e]; exact fun d hd => s3 d (p1 d hd), by rw [e]; omega⟩, e, ?_⟩
    rw [List.take_add_one, hg]; rfl
theorem SInv.stop {ds out : List Int} {i : Nat} (S : SInv ds out i) (h : parseV (dsAt ds i) = none) : out.take i = out := by
  obtain ⟨s1, s2, s3, s4⟩ := S
  generalize hx : out.drop i = x at s1
  cases s1 with
  | stop q => exact List.take_of_length_le (List.drop_eq_nil_iff.mp hx)
  | step q q2 => rw [h] at q; cases q
theorem TabC.trans {h h' h'' : Heap} (x : Since h h') (y : TabC h' h'') : TabC h h'' := fun P hP => by
  rcases y P hP with e | ⟨l1, l2, c', n, f, e⟩
  · rcases x.tabc P hP with e2 | ⟨l1, l2, c', n, f, e2⟩
    · exact .inl (e.trans e2)
    · exact .inr ⟨l1, l2, c', n, f, e.trans e2⟩
  · refine .inr ⟨l1, l2, c', n, ?_, e⟩
    cases q : h.get? c' with
    | none => rfl
    | some o => obtain ⟨_, e'⟩ := x.live c' o q; rw [e'] at f; cases f
section
variable {C : Base} {Mu : Addr → Prop} {prog : Program} {A : Around} {Q : Value → Shared → Prop} {E : Value → Shared → Prop}
theorem syms_call (G : PG C) {s : Shared} {outer : List Env} {number : Int} {out : List Int} {t : Tok} (hA : Rm 20 A) (hfr : A.frames = some outer) (ho : OK C Mu s) (hFA : FramesAt outer s.heap) (hMu : ∀ a ∈ framesOf outer, Mu a) (hn0 : 0 ≤ number) (hbits : Builtin.Int.intBits number ≤ 2 ^ 12 - 2 ^ 8)
    (hR : Runs (figs 8 (i2dLen number 8) number) out) (hout : out.length < 400)
    (hQ : ∀ s' v, StepX (· ∈ framesOf outer) s s' → (∀ a m, s.heap.Ns a m → s'.heap.Ns a m) → Rep (vis Mu s'.heap) v (.list (out.map .int)) → Q v s') :
    wpAny (model prog C.w) A (call (.ref 101) [.int number t]) Q E s := by
  obtain ⟨pm, hfd⟩ := G.fd (101, 69, 100) (by decide)
  obtain ⟨o, hobj, hdat, hcd⟩ := C.fn _ _ hfd
  have q1 : ∀ x ∈ (["number"] : List Str), (sc (stmtAt 69)).names.lookup x = some .local := by decide +kernel
  have q2 : ∀ x ∈ (sc (stmtAt 69)).names, x.2 ≠ .cell := by decide +kernel
  have q3 : (sc (stmtAt 69)).isCoroutine = false := by decide +kernel
  have q4 : (sc (stmtAt 69)).isGenerator = false := by decide +kernel
  have q5 : (sc (stmtAt 69)).kind = .function := by decide +kernel
  generalize hds : figs 8 (i2dLen number 8) number = ds at hR
  have hpos : ∀ d ∈ ds, 0 ≤ d := fun d hd => (figs_mem 8 (i2dLen number 8) number d (hds ▸ hd)).1
  have hlen : ds.length ≤ 2 ^ 12 := by rw [← hds, figs_len]; exact Nat.le_trans (i2dLen_le _ (by decide)) (by omega)
  refine call_closE (k := 19) (X := fun _ => False) (names := ["number"]) (ds := [.int number]) (ρc := []) hA ho (ho.keep _ _ hobj) hdat (hcd.keeps ho.keep) rfl (fun p hp => ?_) (by kernel_rfl) q1 q2 rfl rfl q3 q4 q5 (fun _ h => h.elim) (fun _ h => h.elim) (fun _ _ e => nomatch e) rfl (fun _ h => nomatch h) fun F M hA' => ?_
  · rw [List.mem_singleton.mp hp]
    exact ⟨.int number t, by rfl, fun F w hv => .of (.int _ _)⟩
  have H := M.fok
  have hsc : F.env.scope = sc (stmtAt 69) := M.sc
  have own1 : ∀ a, F.own a → a = F.env.locals := fun a w => ((M.own a).mp w).elim id False.elim
  refine sym_start (k := 19) (ds := ds) H hsc hA' (fun F₂ H₂ e => ?_) (fun X hX H₂ => ?_) (swA (S := sc (stmtAt 69)) hsc fun L g c q f cd fr b => by kernel_rfl) (swB hsc fun L g c q f cd fr b => by kernel_rfl)
  · have hsc₂ : F₂.env.scope = sc (stmtAt 69) := by rw [e]; exact hsc
    rw [← hds]
    exact EV.callF H₂ (by walk_at "kd") (G.mg ("_int2digits", 42) (by decide)) (G.fd (42, 7, 41) (by decide)).choose_spec (EVs.cons H₂ (by walk_at "ev") (EVs.cons H₂ (by walk_at "ev") EVs.nil)) ((int2digits_spec G hn0 (n := 8) (by decide) (by decide) hbits).mono (by decide))
  have hsc₂ : (F.addOwns X).env.scope = sc (stmtAt 69) := hsc
  have fresh : ∀ a, X a → s.heap.get? a = none ∧ ¬ F.Mu a := fun a w => by have := hX a w; rw [M.h₀] at this; exact this
  have fr2 : (A.deeper F.env).frames = some (F.env :: outer) := by show (A.frames.map (F.env :: ·)) = _; rw [hfr]; rfl
  have kpt : ∀ s₁ ρ, St C (F.addOwns X) ρ s₁ → ∀ a o, ¬ isTab a → s.heap.get? a = some o → s₁.heap.get? a = some o := fun s₁ ρ hs₁ a o nt e => hs₁.kept a o (M.kp a o nt (fun h => h) e)
  have nsk : ∀ s₁ ρ, St C (F.addOwns X) ρ s₁ → ∀ a m, s.heap.Ns a m → s₁.heap.Ns a m := fun s₁ ρ hs₁ a m x => by
    have nt := notTab_ns ho.tabs x
    obtain ⟨o, es, ep, e, r⟩ := x
    exact ⟨o, es, ep, kpt s₁ ρ hs₁ a o nt e, r⟩
  have fra : ∀ s₁ ρ, St C (F.addOwns X) ρ s₁ → FramesAt outer s₁.heap := fun s₁ ρ hs₁ => hFA.keep (nsk s₁ ρ hs₁)
  have frL : ∀ a ∈ framesOf outer, ∃ m, s.heap.Ns a m := fun a ha => by
    obtain ⟨env, he, e2⟩ := List.mem_filterMap.mp (show a ∈ outer.filterMap (·.frame) from ha)
    obtain ⟨_, L, m', h2, h3⟩ := hFA env he
    rw [h2] at e2; cases e2
    exact ⟨m', h3⟩
  have frn : ∀ a ∈ framesOf outer, ¬ (F.addOwns X).own a := fun a ha w => by
    obtain ⟨m', o, es, ep, e, _⟩ := frL a ha
    rcases w with w | w
    · rw [own1 a w, M.fresh] at e; cases e
    · rw [(fresh a w).1] at e; cases e
  intro s₁ hs₁
  refine wpAny_execs_cons (wpAny_Try_except ?_)
  refine XS.while (k := 19) (Q := _) (rest := []) (ρ := symR [] ds) H₂ (ρs := fun i => symR (out.take i) (dsAt ds i)) (SInv ds out) (out.length + 1) (fun i => decide (((out.take i).length : Int) < 400)) hA' (fun p hp => hp) ⟨hR, Nat.zero_le _, hpos, hlen⟩ (fun i S => ?t) (fun i S _ => ⟨Nat.lt_succ_of_le S.le, ?b⟩) (fun i S hb => ?r) PassesOwn.looking s₁ hs₁
  case t =>
    refine TT.view H₂ (x := "symbols") (ds := (out.take i).map .int) (ρ₂ := [("symbols", .list ((out.take i).map .int))]) (List.Mem.head _) (fun p hp => .inl (List.mem_singleton.mp hp)) fun F₄ H₄ he => ?_
    have hsc₄ : F₄.env.scope = sc (stmtAt 69) := by rw [he]; exact hsc
    exact TT.cmp H₄ (EV.toI (EV.callB H₄ (by walk_at "kd") (by walk_at "mem") (by walk_at "evs") (TL.lenl (by rw [List.length_map, List.length_take]; omega))) (by rw [List.length_map])) (EV.int 400) T2.lti
  case r =>
    have h1 := of_decide_eq_false hb
    rw [List.length_take] at h1
    omega
  case b =>
    refine sym_append (k := 18) G H₂ hsc₂ hA' fr2 S.pos S.len (fun s₂ hs₂ => ?_) (by rw [List.length_take]; omega) (fun v r hp => ?_) fun hp s₂ s' e SA => ?_
    · intro env he
      rcases List.mem_cons.mp he with rfl | he
      · obtain ⟨m, nn, _⟩ := hs₂.fr
        exact ⟨by rw [H.kind]; decide, _, m, M.frame, nn⟩
      · exact fra s₂ _ hs₂ env he
    · obtain ⟨S', e1, e2⟩ := S.next hp
      exact XS.nil fun s₂ hs₂ => ⟨S', by rw [e1, e2]; exact hs₂⟩
    · have eo := S.stop hp
      rw [eo] at SA
      refine sym_catch H₂ hsc₂ fr2 M.frame SA (fra s₂ _ SA.st) (fun a ha => .inl (M.mu a (hMu a ha))) frn fun s₄ I l vs n wI hLI wl SE el rl => ?_
      have lvI : ∀ a o, s.heap.get? a = some o → a ≠ I := fun a o e q => by
        rcases wI with w | w
        · exact hLI (own1 I w).symm
        · rw [q, (fresh I w).1] at e; cases e
      have lvF : ∀ a o, s.heap.get? a = some o → a ∉ framesOf outer → a ∉ framesOf (F.env :: outer) := fun a o e q z => by
        unfold framesOf at z q
        rw [List.filterMap_cons, M.frame] at z
        rcases List.mem_cons.mp z with z | z
        · rw [z, M.fresh] at e; cases e
        · exact q z
      have kk : ∀ a o, ¬ isTab a → a ∉ framesOf outer → s.heap.get? a = some o → s₄.heap.get? a = some o := fun a o nt nf e => SE.keep a o nt (lvI a o e) (lvF a o e nf) (kpt s₂ _ SA.st a o nt e)
      have nn4 : ∀ a m, s.heap.Ns a m → s₄.heap.Ns a m := fun a m x => SE.ns a m (nsk s₂ _ SA.st a m x)
      have ml : ¬ Mu l := fun hm => by
        rcases wl with w | w
        · obtain ⟨o, e⟩ := ho.live l hm
          rw [own1 l w, M.fresh] at e; cases e
        · exact (fresh l w).2 (M.mu l hm)
      have h0 : (F.addOwns X).h₀ = s.heap := M.h₀
      have si := SA.st.since
      rw [h0] at si
      refine hQ s₄ _ ⟨fun a o nt nf e => kk a o nt nf e, fun a o e => ?_, ⟨SE.tabs.1, TabC.trans si SE.tabs.2⟩, SE.gens.trans (SA.st.ok.gens.trans ho.gens.symm), SE.os.trans (SA.st.ok.os.trans ho.os.symm)⟩ nn4 (.list (n := n) ⟨ml, el⟩ (rl.flat (by simp [D.flat])))
      by_cases ht : isTab a
      · exact tab_live SE.tabs.1 a ht
      · by_cases hf : a ∈ framesOf outer
        · obtain ⟨m, x⟩ := frL a hf
          obtain ⟨o', es, ep, e', _⟩ := nn4 a m x
          exact ⟨o', e'⟩
        · exact ⟨o, kk a o ht hf e⟩
end
@[irreducible] noncomputable def Bz (n : Nat) (a : Int) : Prop := Builtin.Int.intBits a ≤ n
theorem Bz.mk {n : Nat} {a : Int} (h : Builtin.Int.intBits a ≤ n) : Bz n a := by unfold Bz; exact h
theorem Bz.out {n : Nat} {a : Int} (h : Bz n a) : Builtin.Int.intBits a ≤ n := by unfold Bz at h; exact h
theorem Bz.abs {n : Nat} {a : Int} (h : Bz n a) : a.natAbs < 2 ^ n := intBits_le_iff.mp h.out
theorem Bz.of {n : Nat} {a : Int} (h : a.natAbs < 2 ^ n) : Bz n a := .mk (intBits_le_iff.mpr h)
theorem Bz.mono {m n : Nat} {a : Int} (h : Bz m a) (q : m ≤ n) : Bz n a := .mk (Nat.le_trans h.out q)
theorem Bz.mul {m n : Nat} {a b : Int} (h : Bz m a) (h' : Bz n b) : Bz (m + n) (a * b) := .of (by
  rw [Int.natAbs_mul, Nat.pow_add]
  exact Nat.mul_lt_mul_of_lt_of_lt h.abs h'.abs)
theorem Bz.add {m n : Nat} {a b : Int} (h : Bz m a) (h' : Bz n b) : Bz (m + n + 1) (a + b) := .of (Nat.lt_of_le_of_lt (Int.natAbs_add_le a b) (by
  rw [Nat.pow_succ, Nat.mul_two]
  exact Nat.add_lt_add (Nat.lt_of_lt_of_le h.abs (Nat.pow_le_pow_right (by decide) (Nat.le_add_right m n))) (Nat.lt_of_lt_of_le h'.abs (Nat.pow_le_pow_right (by decide) (Nat.le_add_left n m)))))
theorem Bz.lt {n : Nat} {a : Int} (h0 : 0 ≤ a) (h : a < 2 ^ n) : Bz n a := .mk (bits_le h0 h)
theorem Bz.pw {w j : Nat} (hw : w ≤ 9) (hj : j ≤ 400) : Bz 3601 (((2 : Int) ^ w) ^ j) := by
  have e : ((2 : Int) ^ w) ^ j = 2 ^ (w * j) := Int.pow_mul.symm
  rw [e]
  refine Bz.mono (m := w * j + 1) (.lt (Int.le_of_lt (Int.pow_pos (by decide))) (by rw [Int.pow_succ]; have : (0 : Int) < 2 ^ (w * j) := Int.pow_pos (by decide); omega)) ?_
  have := Nat.mul_le_mul hw hj
  omega
section
variable {C : Base} {k : Nat} {F : Fn} {ρ : Rho} {Mu : Addr → Prop}
theorem T2.mulz {m n : Nat} {a b : Int} (h : Bz m a) (h' : Bz n b) (q : Nat.ble (m + n) 134217728 = true) : T2 C k Mu (.int a) (.int b) (binaryOp .Mult) (.int (a * b)) := T2.mul (.of_le h.out h'.out (Nat.le_of_ble_eq_true q))
theorem T2.powN {w j : Nat} (hw : w ≤ 9) (hj : j ≤ 400) : T2 C k Mu (.int (2 ^ w)) (.int j) (binaryOp .Pow) (.int ((2 ^ w) ^ j)) := by
  have := T2.pow (C := C) (k := k) (Mu := Mu) (a := 2 ^ w) (b := (j : Int)) (by omega) (by
    have h1 := (Bz.pw (w := w) (j := 1) hw (by omega)).out
    rw [Int.pow_one] at h1
    have h2 : Builtin.Int.intBits ((2 : Int) ^ w) * j ≤ 3601 * 400 := Nat.mul_le_mul h1 hj
    have h3 : ((Builtin.Int.intBits ((2 : Int) ^ w) * j : Nat) : Int) ≤ 3601 * 400 := by exact_mod_cast h2
    rw [Int.natCast_mul] at h3
    omega)
  rw [Int.toNat_natCast] at this
  exact this
theorem T2.pow2 {w : Nat} (hw : w ≤ 4000) : T2 C k Mu (.int 2) (.int w) (binaryOp .Pow) (.int (2 ^ w)) := by
  have := T2.pow (C := C) (k := k) (Mu := Mu) (a := 2) (b := (w : Int)) (by omega) (by
    have : Builtin.Int.intBits 2 = 2 := by decide +kernel
    rw [this]; omega)
  rw [Int.toNat_natCast] at this
  exact this
theorem T2.mul2 {x : List Nat} (h : x.length ≤ 1000) : T2 C k Mu (.str x) (.int 2) (binaryOp .Mult) (.str (x ++ x)) := by
  have := T2.muls (C := C) (k := k) (Mu := Mu) (x := x) (a := 2) (by decide) (by show x.length * 2 ≤ 2 ^ 20; omega) (by decide)
  have e : (List.replicate (2 : Int).toNat x).flatten = x ++ x := by show (List.replicate 2 x).flatten = _; simp [List.replicate_succ]
  rw [e] at this
  exact this
theorem XS.asgSW {prog : Program} {A : Around} {Q : Flow → Shared → Prop} {E : Value → Shared → Prop} {rest : List Stmt} (H : FOK F) {ts : List Expr} {n : Nat} {tp pos : Pos} {e : Expr} {ds : List D} {names : List Str} {ρ₀ : Rho} (hA : Rm k A) (he : EV C k F ρ e (.tup ds)) (hl : names.length = ds.length) (hk : ∀ n ∈ names, F.env.kindOf n = some .local) (hn : names.Nodup) (hw0 : ∀ p ∈ ρ₀, p ∈ ρ) (hx : ∀ p ∈ ρ₀, p.1 ∉ names)
    (h : XS prog C A F (names.zip ds ++ ρ₀) rest Q E)
    (hs : swapsWithSole [.Tuple ts n tp] e pos.line F.env = pure false) (hw : swappedStores [.Tuple ts n tp] e F.env = pure (some names)) : XS prog C A F ρ (.Assign [.Tuple ts n tp] e pos :: rest) Q E := by
  intro s hst
  refine wpAny_execs_cons (Assign_Tuple_swapped (he.run _ _ _ _ _ hA hst fun v s' y r => ?_) hs hw)
  obtain ⟨a, m, vs, rfl, x, q⟩ := r.tup_i
  have hv := q.length
  have hst' := (hst.step y H.nt).weaken hw0
  have e1 : names.length = vs.toArray.size := by rw [List.size_toArray, hv, hl]
  rw [e1]
  refine unpackItems_tuple hA.1 ⟨_, x.2, rfl, _, rfl⟩ fun h' he' => ?_
  have st : Step s' { s' with heap := h', toks := s'.toks } := Step.of fun b o e => he' b o (Nat.ne_of_lt (Heap.lt_size e)) e
  refine storeAll H (hst'.step st H.nt) ((q.mono (hst'.ok.vis st)).rev) (by simp [hl]) (fun n hm => hk n (List.mem_reverse.mp hm)) (nodup_rev hn) (fun p hp hm => hx p hp (List.mem_reverse.mp hm)) fun s2 h2 => h s2 (h2.weaken fun p hp => ?_)
  rcases List.mem_append.mp hp with hp | hp
  · refine List.mem_append_left _ (List.mem_reverse.mpr ?_)
    rw [zip_rev hl]
    exact List.mem_reverse.mpr hp
  · exact List.mem_append_right _ hp
theorem kd2 {x y : Str} (h1 : F.env.kindOf x = some .local) (h2 : F.env.kindOf y = some .local) : ∀ n ∈ [x, y], F.env.kindOf n = some .local := fun n hn => (List.mem_cons.mp hn).elim (fun q => q ▸ h1) fun hn => List.mem_singleton.mp hn ▸ h2
end
noncomputable def tokList : List (Nat × Int) := [(40, 7), (41, 8), (91, 9), (93, 10), (58, 11), (44, 12), (59, 13), (43, 14), (45, 15), (42, 16), (47, 17), (124, 18), (38, 19), (60, 20), (62, 21), (61, 22), (37, 24), (123, 25), (125, 26), (126, 31), (94, 32), (64, 49), (33, 54)]
structure PGD (C : Base) : Prop extends PG C where
  tok : ∃ es n, C.hb.get? 71 = some ⟨.type "dict", none, .dict es n, #[]⟩ ∧ KeysLit C.w.params es.toList ∧ ∀ p ∈ tokList, ∃ t, findBy Value.isStrOf es (mkS [p.1]) = some (.int p.2 t)
theorem EV.tok {C : Base} {k : Nat} {F : Fn} {ρ : Rho} (H : FOK F) (G : PGD C) {p pos : Pos} {e : Expr} {c : Nat} {code : Int} (hc : (c, code) ∈ tokList) (hx : F.env.kindOf "EXACT_TOKEN_TYPES" = some .globalImplicit) (he : EV C k F ρ e (.str [c])) (hs : ∀ o v, subscripted e false o v = operate [o, v] (getItem o v) := by intro _ _; rfl) : EV C k F ρ (.Subscript (.Name "EXACT_TOKEN_TYPES" p) e pos) (.int code) := by
  refine EV.mk ?_
  intro prog A s Q E hA hs0 hQ
  obtain ⟨es, n, hd, hk, ht⟩ := G.tok
  obtain ⟨t, hf⟩ := ht _ hc
  have hn := G.mg ("EXACT_TOKEN_TYPES", 71) (by decide)
  refine Subscript_ (Calls.Name_function_global H.kind hx (Calls.loadGlobal_global (hs0.mg H) hn ?_) (by decide +kernel))
  refine he.run _ _ _ _ _ hA hs0 fun v2 s2 y2 r2 => ?_
  obtain ⟨t2, rfl⟩ := r2.str_i
  have hs2 := hs0.step y2 H.nt
  have hm := mapOf_K (prog := prog) (w := C.w) (K := [(71, ⟨.type "dict", none, .dict es n, #[]⟩)]) (h := s2.heap) (a := 71) (n := n) (fun a o q => by
    rw [List.lookup_cons] at q
    cases e : a == 71 with
    | true => rw [e] at q; cases q; rw [eq_of_beq e]; exact hs2.ok.keep _ _ hd
    | false => rw [e] at q; cases q) (by rfl) hk
  exact tail_any hm.typeIs slot_dict_getitem.lookup (wpAny_getItem_of (strKind_is prog C.w _ t2) hm hf (hQ _ _ (y2.trans Step.tok) (.int _ _))) (hs _ _)
noncomputable def unpair {α : Type} (ps : List (α × α)) : List α := ps.flatMap fun p => [p.1, p.2]
theorem unpair_len {α : Type} (ps : List (α × α)) : (unpair ps).length = 2 * ps.length := by
  unfold unpair
  induction ps with
  | nil => rfl
  | cons p r ih => rw [List.flatMap_cons, List.length_append, ih, List.length_cons]; simp; omega
theorem unpair_get {α : Type} (ps : List (α × α)) (k : Nat) : (unpair ps)[2 * k]? = (ps[k]?).map (·.1) ∧ (unpair ps)[2 * k + 1]? = (ps[k]?).map (·.2) := by
  induction ps generalizing k with
  | nil => simp [unpair]
  | cons p r ih =>
    have e : unpair (p :: r) = p.1 :: p.2 :: unpair r := rfl
    cases k with
    | zero => rw [e]; exact ⟨rfl, rfl⟩
    | succ k =>
      rw [e, show 2 * (k + 1) = 2 * k + 1 + 1 by omega, List.getElem?_cons_succ, List.getElem?_cons_succ, List.getElem?_cons_succ]
      exact ih k
theorem range_filterMap {α β : Type} (f : α → β) (ps : List α) : ((List.range ps.length).filterMap fun k => (ps[k]?).map f) = ps.map f := by
  induction ps with
  | nil => rfl
  | cons p r ih =>
    rw [List.length_cons, List.range_succ_eq_map, List.filterMap_cons, List.filterMap_map, List.map_cons, ← ih]
    rfl
theorem filterMap_ext {α β : Type} {f g : α → Option β} {l : List α} (h : ∀ a, f a = g a) : l.filterMap f = l.filterMap g := by rw [funext h]
theorem bounds_even {n : Nat} : sliceBounds none none (some 2) n = (0, (n : Int), 2) := by
  unfold sliceBounds; simp
theorem bounds_odd {n : Nat} (h : 1 ≤ n) : sliceBounds (some 1) none (some 2) n = (1, (n : Int), 2) := by
  unfold sliceBounds; simp; omega
theorem picks_even {α : Type} (ps : List (α × α)) : picks (unpair ps) none none (some 2) = ps.map (·.1) := by
  unfold picks
  rw [bounds_even, unpair_len]
  have e : sliceRange 0 ((2 * ps.length : Nat) : Int) 2 = (List.range ps.length).map fun k => 2 * k := by
    unfold sliceRange
    rw [if_pos (by decide)]
    have : (if (0 : Int) < ((2 * ps.length : Nat) : Int) then (((2 * ps.length : Nat) : Int) - 0 + 2 - 1) / 2 else 0).toNat = ps.length := by split <;> omega
    simp only [this]
    refine List.map_congr_left fun k _ => ?_
    omega
  simp only
  rw [e, List.filterMap_map, ← range_filterMap]
  refine filterMap_ext fun k => ?_
  exact (unpair_get ps k).1
theorem picks_odd {α : Type} (ps : List (α × α)) : picks (unpair ps) (some 1) none (some 2) = ps.map (·.2) := by
  by_cases hp : ps = []
  · subst hp; rfl
  have hl : 0 < ps.length := List.length_pos_iff.mpr hp
  unfold picks
  rw [bounds_odd (by rw [unpair_len]; omega), unpair_len]
  have e : sliceRange 1 ((2 * ps.length : Nat) : Int) 2 = (List.range ps.length).map fun k => 2 * k + 1 := by
    unfold sliceRange
    rw [if_pos (by decide)]
    have : (if (1 : Int) < ((2 * ps.length : Nat) : Int) then (((2 * ps.length : Nat) : Int) - 1 + 2 - 1) / 2 else 0).toNat = ps.length := by split <;> omega
    simp only [this]
    refine List.map_congr_left fun k _ => ?_
    omega
  simp only
  rw [e, List.filterMap_map, ← range_filterMap]
  refine filterMap_ext fun k => ?_
  exact (unpair_get ps k).2
theorem unpair_map {α β : Type} (f : α → β) (ps : List (α × α)) : (unpair ps).map f = unpair (ps.map fun p => (f p.1, f p.2)) := by
  unfold unpair
  rw [List.map_flatMap, List.flatMap_map]; rfl
structure PD (w k h s t : Nat) (c0 c1 c2 : Int) (T : List Nat) (N place rule : Int) (T' : List Nat) (N' : Int) where
  spot : Nat
  size : Nat
  behind : Nat
  put : List Nat
  pt : List Nat
  into : Int
  ahead : Int
  rest : Int
  middle : Int
  low : Int
  p0 : 0 ≤ place
  p1 : place < 256
  r0 : 256 ≤ rule
  r1 : rule < 260
  eof : (place == 0) = decide (rule < 258)
  len : spot + size + behind = T.length
  sel : [((T.length : Int) - 1, (1 : Int)), (1, (T.length : Int) - 1), (place, (k : Int)), (place, 2)][(rule - 256).toNat]? = some ((spot : Int), (size : Int))
  pat : [([h] ++ dots) ++ [s], [h] ++ dots, (T.take spot ++ List.replicate k s) ++ dots, (T.take spot ++ List.replicate 2 t) ++ dots][(rule - 256).toNat]? = some pt
  yes : em pt T = true
  d1 : N.fdiv ((2 ^ w) ^ (behind + size)) = ahead ∧ N.fmod ((2 ^ w) ^ (behind + size)) = rest
  d2 : 0 < behind → rest.fdiv ((2 ^ w) ^ behind) = middle ∧ rest.fmod ((2 ^ w) ^ behind) = low
  d3 : ¬ 0 < behind → rest = middle ∧ 0 = low
  see : rule = 257 → ahead = c0
  see2 : rule ≠ 257 → middle = dig w (List.replicate size (if rule < 259 then c1 else c2))
  hput : [[s] ++ [t], T.drop 1 ++ T.drop 1, [t], []][(rule - 256).toNat]? = some put
  hinto : [middle * 2 ^ w + c2, middle * (2 ^ w) ^ size + middle, c2, 0][(rule - 256).toNat]? = some into
  hT : T' = (T.take spot ++ put) ++ T.drop (spot + size)
  hN : N' = (ahead * (2 ^ w) ^ put.length + into) * (2 ^ w) ^ behind + low
  bN : Bz 3800 N
  bA : Bz 3800 ahead
  bR : Bz 3800 rest
  bM : Bz 3800 middle
  bI : Bz 8000 into
  bL : Bz 3800 low
section
variable {C : Base} {Mu : Addr → Prop}
noncomputable abbrev prvR (w k h s t : Nat) (c0 c1 c2 : Int) (T : List Nat) (N : Int) : Rho := [("text", .str T), ("number", .int N), ("base", .int (2 ^ w)), ("codes", .list [.int c0, .int c1, .int c2]), ("k", .int k), ("head", .str [h]), ("stroke", .str [s]), ("knot", .str [t]), ("w", .int w)]
theorem idx4 {α : Type} {f : α → D} {l : List α} {r : Int} {d : D} {a : α} (h0 : 256 ≤ r) (h1 : r < 260) (h : l[(r - 256).toNat]? = some a) (e : f a = d) {C : Base} {k : Nat} {Mu : Addr → Prop} : T2 C k Mu (.list (l.map f)) (.int (r - 256)) getItem d :=
  T2.idxl (by omega) (by omega) (by rw [List.getElem?_map, h]; exact congrArg some e)
noncomputable def forBd : Stmt → List Stmt | .For _ _ b _ _ => b | _ => []
theorem noCell {n : Nat} {F : Fn} (h : (sc (stmtAt n)).names.all (fun x => x.2 != .cell) = true) : ∀ x, (sc (stmtAt n)).names.lookup x = some .cell → ∃ c, CellOK F x c := fun x hx => by
  have := List.all_eq_true.mp h _ (lookup_mem hx)
  simp at this
theorem idm {C : Base} (G : PG C) {k : Nat} {F₂ : Fn} {ρ : Rho} {a b : Int} {e1 e2 : Expr} {p pos : Pos} (H₂ : FOK F₂) (hx : F₂.env.kindOf "int_divmod" = some .globalImplicit) (hk : 18 ≤ k) (hb : b ≠ 0) (h1 : Bz 3900 b) (h2 : Bz 3800 a) (h3 : EVs C k F₂ ρ [e1, e2] [.int a, .int b]) {q r : Int} (hq : a.fdiv b = q ∧ a.fmod b = r) (h4 : starEach [e1, e2] F₂.env = (false, eval e1 F₂.env) :: starEach [e2] F₂.env := by rfl) : EV C k F₂ ρ (.Call (.Name "int_divmod" p) [e1, e2] [] pos) (.tup [.int q, .int r]) := by
  rw [← hq.1, ← hq.2]
  exact EV.callF H₂ hx (G.mg ("int_divmod", 63) (by decide)) (G.fd (63, 10, 62) (by decide)).choose_spec h3 ((int_divmod_spec G hb h1.out (Nat.le_trans h2.out (by decide))).mono hk) h4
theorem pw_ne {w j : Nat} : ((2 : Int) ^ w) ^ j ≠ 0 := Int.ne_of_gt (Int.pow_pos (Int.pow_pos (by decide)))
set_option maxHeartbeats 4000000 in
theorem proved_turn (G : PGD C) {F : Fn} {prog : Program} {A : Around} {w k h s t : Nat} {c0 c1 c2 : Int} {T T' : List Nat} {N N' place rule : Int} {dr : D} {ρb : Rho} (H : FOK F) (hsc : F.env.scope = sc (stmtAt 72)) (hA : Rm 21 A) (hw : w ≤ 9) (hk : k ≤ 8) (hs : Sz 400 T)
    (hc1 : 0 ≤ c1 ∧ c1 < 2 ^ w) (hc2 : 0 ≤ c2 ∧ c2 < 2 ^ w) (bc2 : Bz 6 c2) (P : PD w k h s t c0 c1 c2 T N place rule T' N') (hs' : Sz 400 T') :
    XS prog C A F (("rule", .int rule) :: ("place", .int place) :: prvR w k h s t c0 c1 c2 T N) (forBd (inSt 72 2)) (Turn C F (prvR w k h s t c0 c1 c2 T' N') ρb dr) NoE := by
  obtain ⟨spot, size, behind, put, pt, into, ahead, rest, middle, low, p0, p1, r0, r1, eof, len, sel, pat, yes, d1, d2, d3, see, see2, hput, hinto, hT, hN, bN, bA, bR, bM, bI, bL⟩ := P
  have G' := G.toPG
  have hcs := noCell (n := 72) (F := F) (by decide +kernel)
  have hl := hs.out
  refine XS.asg (d := .list ([true, false, false, true, decide (rule < 258), false, false].map .bool)) H hA (EV.toL (EV.lst H
    (EVs.cons H (EV.callF H (by walk_at "kd") (G.mg ("ISTERMINAL", 80) (by decide)) (G.fd (80, 65, 79) (by decide)).choose_spec (by walk_at "evs") (isterminal_spec G'))
    (EVs.cons H (EV.callF H (by walk_at "kd") (G.mg ("ISTERMINAL", 80) (by decide)) (G.fd (80, 65, 79) (by decide)).choose_spec (by walk_at "evs") (isterminal_spec G'))
    (EVs.cons H (EV.callF H (by walk_at "kd") (G.mg ("ISNONTERMINAL", 87) (by decide)) (G.fd (87, 66, 86) (by decide)).choose_spec (by walk_at "evs") (isnonterminal_spec G'))
    (EVs.cons H (EV.callF H (by walk_at "kd") (G.mg ("ISNONTERMINAL", 87) (by decide)) (G.fd (87, 66, 86) (by decide)).choose_spec (by walk_at "evs") (isnonterminal_spec G'))
    (EVs.cons H (EV.callF H (by walk_at "kd") (G.mg ("ISEOF", 94) (by decide)) (G.fd (94, 67, 93) (by decide)).choose_spec (by walk_at "evs") (iseof_spec G'))
    (EVs.cons H (EV.callF H (by walk_at "kd") (G.mg ("ISEOF", 94) (by decide)) (G.fd (94, 67, 93) (by decide)).choose_spec (by walk_at "evs") (iseof_spec G'))
    (EVs.cons H (EV.callF H (by walk_at "kd") (G.mg ("ISEOF", 94) (by decide)) (G.fd (94, 67, 93) (by decide)).choose_spec (by walk_at "evs") (iseof_spec G')) EVs.nil))))))) (Nat.le_of_ble_eq_true rfl)) ?kinds) (by walk_at "kd") (by walk_at "ne") ?_
  case kinds =>
    rw [decide_eq_true p1, decide_eq_false (show ¬ rule < 256 by omega), decide_eq_false (show ¬ place ≥ 256 by omega), decide_eq_true (show rule ≥ 256 by omega), eof, show (rule == 0) = false from by simp; omega, show (-rule == 0) = false from by simp; omega]
    rfl
  generalize hbs : [true, false, false, true, decide (rule < 258), false, false] = bs
  have lbs : Ln 7 bs := by rw [← hbs]; exact Ln.lit rfl
  have cB : ∀ l : List Bool, Cmp (.list (l.map D.bool)) := fun l => (CN.list (n := 0) (CN.map fun b _ => CN.bool b)).cmp
  refine XS.iff (b := (false || false)) H hA (TT.or2 H
      (TT.cmp H (EV.lcomp H (SrcE.list (by walk_at "ev")) (Sees.of (ρc := []) hsc hcs (by decide +kernel) (by decide +kernel) (by kernel_rfl) sub_nil) (Ln.map lbs |>.le rfl)
        fun F₂ IC => CL.all (fun b => .bool b) bs (fun b => .bool (b == true)) IC (by decide +kernel) (by kernel_rfl) fun b hb F₃ IC₃ H₃ => by walk_at "ev") (EV.toL (b := bs.map fun b => .bool (b == true)) (by walk_at "ev") (by rw [← hbs]; cases decide (rule < 258) <;> rfl)) (T2.ner (List.map_map (g := D.bool) (f := fun b => b == true) (l := bs) ▸ cB _)))
      (fun _ => TT.cmp H (EV.lcomp H (SrcE.list (by walk_at "ev")) (Sees.of (ρc := []) hsc hcs (by decide +kernel) (by decide +kernel) (by kernel_rfl) sub_nil) (Ln.map lbs |>.le rfl)
        fun F₂ IC => CL.all (fun b => .bool b) bs (fun b => .bool (b == false)) IC (by decide +kernel) (by kernel_rfl) fun b hb F₃ IC₃ H₃ => by walk_at "ev") (EV.toL (b := bs.map fun b => .bool (b == false)) (by walk_at "ev") (by rw [← hbs, show decide (rule > 257) = !decide (rule < 258) by by_cases q : rule < 258 <;> simp [q] <;> omega]; cases decide (rule < 258) <;> rfl)) (T2.ner (List.map_map (g := D.bool) (f := fun b => b == false) (l := bs) ▸ cB _)))) (fun hb => absurd hb (by decide)) (fun _ => ?_)
  refine XS.thenn (ρ' := ("rule", .int rule) :: ("place", .int place) :: prvR w k h s t c0 c1 c2 T N) ?_ (by walk_at "sub")
  have hpt : pt.length < 2 ^ 18 := by
    have := List.mem_of_getElem? pat
    simp only [List.mem_cons, List.not_mem_nil, or_false] at this
    rcases this with rfl | rfl | rfl | rfl <;> simp <;> omega
  have hpl : put.length ≤ 400 := by
    have := hs'.out
    rw [hT, List.length_append, List.length_append] at this
    omega
  have bB : Bz 3601 ((2 : Int) ^ w) := by have := Bz.pw (w := w) (j := 1) hw (by decide); rwa [Int.pow_one] at this
  have hw4 : w ≤ 2 ^ 12 := by omega
  refine XS.asgT H hA (ds := [.int (spot : Nat), .int (size : Nat)]) (EV.item (T := "list") H (d1 := .list ([((T.length : Int) - 1, (1 : Int)), (1, (T.length : Int) - 1), (place, (k : Int)), (place, 2)].map fun p => .tup [.int p.1, .int p.2])) (by walk_at "ev") (EV.bin H (by walk_at "ev") (by walk_at "ev") T2.sub) (idx4 r0 r1 sel rfl) rfl)
    (AsgL.cons (fun F₄ L₄ => Asg.name L₄.fok (by rw [show F₄.env.kindOf "spot" = F.env.kindOf "spot" by rw [L₄.env]]; walk_at "kd") (by walk_at "ne")) rfl (AsgL.cons (fun F₄ L₄ => Asg.name L₄.fok (by rw [show F₄.env.kindOf "size" = F.env.kindOf "size" by rw [L₄.env]]; walk_at "kd") (by walk_at "ne")) rfl AsgL.nil)) ?_
  refine XS.iff (b := !true) H hA (TT.not (TT.val H (d := .bool true) (EV.callF H (by walk_at "kd") (G.mg ("_ellipsis_match", 21) (by decide)) (G.fd (21, 2, 20) (by decide)).choose_spec (EVs.cons H (EV.item (T := "list") H (d1 := .list ([([h] ++ dots) ++ [s], [h] ++ dots, (T.take spot ++ List.replicate k s) ++ dots, (T.take spot ++ List.replicate 2 t) ++ dots].map .str)) (by walk_at "ev") (EV.bin H (by walk_at "ev") (by walk_at "ev") T2.sub) (idx4 r0 r1 pat rfl) rfl) (by walk_at "evs")) (yes ▸ em_spec G' hpt (by omega))) rfl rfl)) (fun hb => absurd hb (by decide)) (fun _ => ?_)
  refine XS.thenn (ρ' := ("size", .int (size : Nat)) :: ("spot", .int (spot : Nat)) :: ("rule", .int rule) :: ("place", .int place) :: prvR w k h s t c0 c1 c2 T N) ?_ (by walk_at "sub")
  refine XS.asg (d := .int (behind : Nat)) H hA (EV.toI (EV.bin H (EV.bin H (by walk_at "ev") (by walk_at "ev") T2.sub) (by walk_at "ev") T2.sub) (by omega)) (by walk_at "kd") (by walk_at "ne") ?_
  refine XS.asgT H hA (ds := [.int ahead, .int rest]) (idm G' H (by walk_at "kd") (by decide) pw_ne ((Bz.pw hw (by omega)).mono (by decide)) bN (EVs.cons H (by walk_at "ev") (EVs.cons H (EV.bin H (by walk_at "ev") (EV.bin H (by walk_at "ev") (by walk_at "ev") T2.addn) (T2.powN hw (by omega))) EVs.nil)) d1)
    (AsgL.cons (fun F₄ L₄ => Asg.name L₄.fok (by rw [show F₄.env.kindOf "ahead" = F.env.kindOf "ahead" by rw [L₄.env]]; walk_at "kd") (by walk_at "ne")) rfl (AsgL.cons (fun F₄ L₄ => Asg.name L₄.fok (by rw [show F₄.env.kindOf "rest" = F.env.kindOf "rest" by rw [L₄.env]]; walk_at "kd") (by walk_at "ne")) rfl AsgL.nil)) ?_
  refine XS.asgT H hA (ds := [.int middle, .int low]) (EV.ifx H (b := decide (((behind : Nat) : Int) > 0)) (by walk_at "tt")
      (fun hb => idm G' H (by walk_at "kd") (by decide) pw_ne ((Bz.pw hw (by omega)).mono (by decide)) bR (EVs.cons H (by walk_at "ev") (EVs.cons H (EV.bin H (by walk_at "ev") (by walk_at "ev") (T2.powN hw (by omega))) EVs.nil)) (d2 (by have := of_decide_eq_true hb; omega)))
      (fun hb => by obtain ⟨e1, e2⟩ := d3 (by have := of_decide_eq_false hb; omega); rw [← e1, ← e2]; walk_at "ev"))
    (AsgL.cons (fun F₄ L₄ => Asg.name L₄.fok (by rw [show F₄.env.kindOf "middle" = F.env.kindOf "middle" by rw [L₄.env]]; walk_at "kd") (by walk_at "ne")) rfl (AsgL.cons (fun F₄ L₄ => Asg.name L₄.fok (by rw [show F₄.env.kindOf "low" = F.env.kindOf "low" by rw [L₄.env]]; walk_at "kd") (by walk_at "ne")) rfl AsgL.nil)) ?_
  have hc : 0 ≤ (if rule < 259 then c1 else c2) ∧ (if rule < 259 then c1 else c2) < 2 ^ w := by split <;> assumption
  refine XS.asgT H hA (ds := [.int (if rule = 257 then c0 else middle), .int (if rule = 257 then c0 else middle)]) (EV.ifx H (b := rule == 257) (by walk_at "tt")
      (fun hb => by
        have hb' : rule = 257 := by simpa using hb
        rw [if_pos hb', ← see hb']
        refine EV.tup H (EVs.cons H (by walk_at "ev") (EVs.cons H (EV.item (T := "list") H (by walk_at "ev") (EV.int 0) (T2.idxl (by decide) (by decide) (by rw [see hb']; rfl)) rfl) EVs.nil)) (Nat.le_of_ble_eq_true rfl))
      (fun hb => by
        have hb' : ¬ rule = 257 := by simpa using hb
        rw [if_neg hb']
        refine EV.tup H (EVs.cons H (by walk_at "ev") (EVs.cons H (EV.toI (EV.callF H (by walk_at "kd") (G.mg ("_digits2int", 49) (by decide)) (G.fd (49, 8, 48) (by decide)).choose_spec (EVs.cons H (EV.toL (b := (List.replicate size (if rule < 259 then c1 else c2)).map .int) (EV.bin H (d1 := .list [.int (if rule < 259 then c1 else c2)]) (EV.lst H (EVs.cons H (EV.item (T := "list") H (d2 := .int (if rule < 259 then 1 else 2)) (by walk_at "ev") (EV.ifx H (b := decide (rule < 259)) (by walk_at "tt") (fun hb => by rw [if_pos (of_decide_eq_true hb)]; exact EV.int 1) (fun hb => by rw [if_neg (of_decide_eq_false hb)]; exact EV.int 2)) (T2.idxl (by split <;> decide) (by split <;> decide) (by split <;> rfl)) rfl) EVs.nil) (Nat.le_of_ble_eq_true rfl)) (by walk_at "ev") (T2.mull (by omega) (by omega) (by simp; omega))) (by rw [Int.toNat_natCast, List.flatten_replicate_singleton, List.map_replicate])) (by walk_at "evs")) ((digits2int_spec G' (by rw [List.length_replicate]; omega) hw4 (fun d hd => by rw [List.eq_of_mem_replicate hd]; exact hc)).mono (by decide))) (see2 hb').symm) EVs.nil)) (Nat.le_of_ble_eq_true rfl)))
    (AsgL.cons (fun F₄ L₄ => Asg.name L₄.fok (by rw [show F₄.env.kindOf "seen" = F.env.kindOf "seen" by rw [L₄.env]]; walk_at "kd") (by walk_at "ne")) rfl (AsgL.cons (fun F₄ L₄ => Asg.name L₄.fok (by rw [show F₄.env.kindOf "due" = F.env.kindOf "due" by rw [L₄.env]]; walk_at "kd") (by walk_at "ne")) rfl AsgL.nil)) ?_
  refine XS.iff (b := ((if rule = 257 then c0 else middle) != (if rule = 257 then c0 else middle))) H hA (by walk_at "tt") (fun hb => absurd hb (by simp)) (fun _ => ?_)
  refine XS.thenn (ρ' := ("low", .int low) :: ("middle", .int middle) :: ("ahead", .int ahead) :: ("behind", .int (behind : Nat)) :: ("size", .int (size : Nat)) :: ("spot", .int (spot : Nat)) :: ("rule", .int rule) :: prvR w k h s t c0 c1 c2 T N) ?_ (by walk_at "sub")
  refine XS.asg (d := .str put) H hA (EV.item (T := "list") H (d1 := .list ([[s] ++ [t], T.drop 1 ++ T.drop 1, [t], []].map .str)) (EV.lst H (EVs.cons H (by walk_at "ev") (EVs.cons H (EV.bin H (by walk_at "ev") (by walk_at "ev") (T2.mul2 (by simp; omega))) (by walk_at "evs"))) (Nat.le_of_ble_eq_true rfl)) (EV.bin H (by walk_at "ev") (by walk_at "ev") T2.sub) (idx4 r0 r1 hput rfl) rfl) (by walk_at "kd") (by walk_at "ne") ?_
  have e2 : EV C 21 F (("put", .str put) :: ("low", .int low) :: ("middle", .int middle) :: ("ahead", .int ahead) :: ("behind", .int (behind : Nat)) :: ("size", .int (size : Nat)) :: ("spot", .int (spot : Nat)) :: ("rule", .int rule) :: prvR w k h s t c0 c1 c2 T N) (.Name "codes" default) (.list [.int c0, .int c1, .int c2]) := by walk_at "ev"
  refine XS.asg (d := .int into) H hA (EV.item (T := "list") H (d1 := .list ([middle * 2 ^ w + c2, middle * (2 ^ w) ^ size + middle, c2, 0].map .int)) (EV.lst H
      (EVs.cons H (EV.bin H (EV.bin H (by walk_at "ev") (by walk_at "ev") (T2.mulz bM bB rfl)) (EV.item (T := "list") H (by walk_at "ev") (EV.int 2) (T2.idxl (by decide) (by decide) rfl) rfl) T2.add)
      (EVs.cons H (EV.bin H (EV.bin H (by walk_at "ev") (EV.bin H (by walk_at "ev") (by walk_at "ev") (T2.powN hw (by omega))) (T2.mulz bM (Bz.pw hw (by omega)) rfl)) (by walk_at "ev") T2.add)
      (EVs.cons H (EV.item (T := "list") H (by walk_at "ev") (EV.int 2) (T2.idxl (by decide) (by decide) rfl) rfl) (by walk_at "evs")))) (Nat.le_of_ble_eq_true rfl)) (EV.bin H (by walk_at "ev") (by walk_at "ev") T2.sub) (idx4 r0 r1 hinto rfl) rfl) (by walk_at "kd") (by walk_at "ne") ?_
  have sp : Sz 400 put := .mk hpl
  refine XS.asgSW (names := ["text", "number"]) (ds := [.str T', .int N']) (ρ₀ := [("base", .int (2 ^ w)), ("codes", .list [.int c0, .int c1, .int c2]), ("k", .int k), ("head", .str [h]), ("stroke", .str [s]), ("knot", .str [t]), ("w", .int w)]) H hA (EV.tup H (EVs.cons H (EV.toS (by walk_at "ev") hT.symm) (EVs.cons H (EV.toI (EV.bin H (EV.bin H (EV.bin H (EV.bin H (by walk_at "ev") (EV.bin H (by walk_at "ev") (by walk_at "ev") (T2.powN hw hpl)) (T2.mulz bA (Bz.pw hw hpl) rfl)) (by walk_at "ev") T2.add) (EV.bin H (by walk_at "ev") (by walk_at "ev") (T2.powN hw (by omega))) (T2.mulz ((bA.mul (Bz.pw hw hpl)).add bI) (Bz.pw hw (by omega)) rfl)) (by walk_at "ev") T2.add) hN.symm) EVs.nil)) (Nat.le_of_ble_eq_true rfl)) rfl (kd2 (by walk_at "kd") (by walk_at "kd")) (by decide +kernel) (by walk_at "sub") (sub_notin (by kernel_rfl)) ?_ (swA hsc fun L g c q f cd fr b => by kernel_rfl) (swB hsc fun L g c q f cd fr b => by kernel_rfl)
  exact XS.nil fun s' hs' => hs'
end
section
variable {C : Base} {Mu : Addr → Prop}
theorem zip_unpair (ps : List (Int × Int)) : zipL ((ps.map (·.1)).map .int) ((ps.map (·.2)).map .int) = ps.map fun p => .tup [.int p.1, .int p.2] := by
  unfold zipL
  induction ps with
  | nil => rfl
  | cons p r ih => simp only [List.map_cons, List.zipWith_cons_cons, ih]
set_option maxHeartbeats 4000000 in
theorem proved_spec (G : PGD C) {w k h s t : Nat} {c0 c1 c2 : Int} {ps : List (Int × Int)} {T : Nat → List Nat} {N : Nat → Int} (hw : w ≤ 9) (hk : k ≤ 8) (th : (h, c0) ∈ tokList) (ts : (s, c1) ∈ tokList) (tt : (t, c2) ∈ tokList)
    (hc0 : 0 ≤ c0 ∧ c0 < 2 ^ w) (hc1 : 0 ≤ c1 ∧ c1 < 2 ^ w) (hc2 : 0 ≤ c2 ∧ c2 < 2 ^ w) (bc2 : Bz 6 c2) (hT0 : T 0 = [h, s]) (hN0 : N 0 = c0 * 2 ^ w + c1) (hsz : ∀ i, i ≤ ps.length → Sz 400 (T i)) (hP : ∀ i p, ps[i]? = some p → Nonempty (PD w k h s t c0 c1 c2 (T i) (N i) p.1 p.2 (T (i + 1)) (N (i + 1)))) (hps : ps.length ≤ 10000)
    (hw0 : 0 < w) (hNe : 0 ≤ N ps.length) (bNe : Bz 3800 (N ps.length)) :
    TL C 22 Mu [.list ((unpair ps).map .int), .int k, .str [h], .str [s], .str [t], .int w] (fun vs => call (.ref 118) vs) (.list [.str (T ps.length), .int (N ps.length), .list ((figs w (i2dLen (N ps.length) w) (N ps.length)).map .int)]) := by
  have G' := G.toPG
  refine TL.defP G' (n := 72) (cd := 117) (names := ["symbols", "k", "head", "stroke", "knot", "w"]) (by decide) (fun pm vs hv => by obtain ⟨a, b, c, d, e, f, rfl⟩ := len6' hv; kernel_rfl) (by decide +kernel) rfl ?_
  intro prog A F h₀ hsc M H hA
  refine XS.asgS (names := ["base", "codes"]) (ds := [.int (2 ^ w), .list [.int c0, .int c1, .int c2]]) H hA (EV.tup H (EVs.cons H (EV.bin H (EV.int 2) (by walk_at "ev") (T2.pow2 (by omega))) (EVs.cons H (EV.lst H (EVs.cons H (EV.tok H G th (by walk_at "kd") (by walk_at "ev")) (EVs.cons H (EV.tok H G ts (by walk_at "kd") (by walk_at "ev")) (EVs.cons H (EV.tok H G tt (by walk_at "kd") (by walk_at "ev")) EVs.nil))) (Nat.le_of_ble_eq_true rfl)) EVs.nil)) (Nat.le_of_ble_eq_true rfl)) rfl (kd2 (by walk_at "kd") (by walk_at "kd")) (by decide +kernel) (sub_notin (by kernel_rfl)) ?_ (swA hsc fun L g c q f cd fr b => by kernel_rfl) (swB hsc fun L g c q f cd fr b => by kernel_rfl)
  have hdig : dig w [c1, c0] = N 0 := by rw [hN0]; simp only [dig]; rw [Int.mul_add, Int.mul_zero, Int.mul_zero, Int.add_zero, Int.mul_comm]; omega
  refine XS.asgS (names := ["text", "number"]) (ds := [.str (T 0), .int (N 0)]) H hA (EV.tup H (EVs.cons H (EV.toS (by walk_at "ev") hT0.symm) (EVs.cons H (EV.toI (EV.callF H (by walk_at "kd") (G.mg ("_digits2int", 49) (by decide)) (G.fd (49, 8, 48) (by decide)).choose_spec (EVs.cons H (EV.toL (b := [c1, c0].map .int) (EV.lst H (EVs.cons H (EV.item (T := "list") H (by walk_at "ev") (EV.int 1) (T2.idxl (by decide) (by decide) rfl) rfl) (EVs.cons H (EV.item (T := "list") H (by walk_at "ev") (EV.int 0) (T2.idxl (by decide) (by decide) rfl) rfl) EVs.nil)) (Nat.le_of_ble_eq_true rfl)) rfl) (by walk_at "evs")) ((digits2int_spec G' (Nat.le_of_ble_eq_true rfl) (by omega) (fun d hd => by
      rcases List.mem_cons.mp hd with rfl | hd
      · exact hc1
      · rw [List.mem_singleton.mp hd]; exact hc0)).mono (by decide))) hdig) EVs.nil)) (Nat.le_of_ble_eq_true rfl)) rfl (kd2 (by walk_at "kd") (by walk_at "kd")) (by decide +kernel) (sub_notin (by kernel_rfl)) ?_ (swA hsc fun L g c q f cd fr b => by kernel_rfl) (swB hsc fun L g c q f cd fr b => by kernel_rfl)
  have hun : (unpair ps).map D.int = unpair (ps.map fun p => (D.int p.1, D.int p.2)) := unpair_map _ _
  have e1 : picks ((unpair ps).map D.int) none none (some 2) = (ps.map (·.1)).map .int := by rw [hun, picks_even, List.map_map, List.map_map]; rfl
  have e2 : picks ((unpair ps).map D.int) (some 1) none (some 2) = (ps.map (·.2)).map .int := by rw [hun, picks_odd, List.map_map, List.map_map]; rfl
  have hul : ((unpair ps).map D.int).length ≤ 2 ^ 24 := by rw [List.length_map, unpair_len]; omega
  refine XS.for H hA (ds := ps.map fun p => .tup [.int p.1, .int p.2]) (ρs := fun i => prvR w k h s t c0 c1 c2 (T i) (N i)) (ρ' := prvR w k h s t c0 c1 c2 (T ps.length) (N ps.length)) (dr := .list [.str (T ps.length), .int (N ps.length), .list ((figs w (i2dLen (N ps.length) w) (N ps.length)).map .int)])
    (SrcE.toL (SrcE.zip H (by walk_at "kd") (EV.toL (EV.slicel (lo := none) (hi := none) (l := none) (u := none) (t := some 2) H (by walk_at "ev") trivial trivial (EV.int 2) (by decide) hul (fun o i => ⟨_, rfl⟩)) e1) (EV.toL (EV.slicel (hi := none) (l := some 1) (u := none) (t := some 2) H (by walk_at "ev") (EV.int 1) trivial (EV.int 2) (by decide) hul (fun o i => ⟨_, rfl⟩)) e2)) (zip_unpair ps)) (by walk_at "sub") (fun i d hd => ?_) (fun p hp => by rw [List.length_map]; exact hp) Ret.of ?_
  · rw [List.getElem?_map] at hd
    obtain ⟨p, hp, rfl⟩ := Option.map_eq_some_iff.mp hd
    obtain ⟨P⟩ := hP i p hp
    have hlt := (List.getElem?_eq_some_iff.mp hp).1
    refine ⟨("rule", .int p.2) :: ("place", .int p.1) :: prvR w k h s t c0 c1 c2 (T i) (N i), fun F₂ L => ?_, fun F₂ L => ?_⟩
    · have H₂ := L.fok
      have hsc₂ : F₂.env.scope = sc (stmtAt 72) := by rw [L.env]; exact hsc
      exact Asg.tup H₂ (AsgL.cons (fun F₄ L₄ => Asg.name L₄.fok (by rw [show F₄.env.kindOf "place" = F₂.env.kindOf "place" by rw [L₄.env]]; exact kd hsc₂ (by decide +kernel)) (by walk_at "ne")) rfl (AsgL.cons (fun F₄ L₄ => Asg.name L₄.fok (by rw [show F₄.env.kindOf "rule" = F₂.env.kindOf "rule" by rw [L₄.env]]; exact kd hsc₂ (by decide +kernel)) (by walk_at "ne")) rfl AsgL.nil))
    · have hsc₂ : F₂.env.scope = sc (stmtAt 72) := by rw [L.env]; exact hsc
      exact proved_turn G L.fok hsc₂ hA hw hk (hsz i (by omega)) hc1 hc2 bc2 P (hsz (i + 1) (by omega))
  · exact XS.ret H hA (EV.lst H (EVs.cons H (by walk_at "ev") (EVs.cons H (by walk_at "ev") (EVs.cons H (EV.callF H (by walk_at "kd") (G.mg ("_int2digits", 42) (by decide)) (G.fd (42, 7, 41) (by decide)).choose_spec (by walk_at "evs") ((int2digits_spec G' hNe hw0 (by omega) (Nat.le_trans bNe.out (by decide))).mono (by decide))) EVs.nil))) (Nat.le_of_ble_eq_true rfl)) Ret.of
end
structure ZApart (z TI TO i1 i2 l2 : Addr) : Prop where
  TIz : TI ≠ z
  TOz : TO ≠ z
  i1z : i1 ≠ z
  i2z : i2 ≠ z
  TITO : TI ≠ TO
  TIi1 : TI ≠ i1
  TIi2 : TI ≠ i2
  TOi1 : TO ≠ i1
  TOi2 : TO ≠ i2
  i12 : i1 ≠ i2
  l2z : l2 ≠ z
  l2TO : l2 ≠ TO
  l2i1 : l2 ≠ i1
  l2i2 : l2 ≠ i2
theorem zapart5 (n l2 : Nat) (h2 : l2 < n) : ZApart (n + 4) (n + 2) (n + 3) n (n + 1) l2 := by
  constructor <;> (refine fun q => ?_; have q' := (show (_ : Nat) = _ from q); omega)
theorem IsStrIter.ext {h h' : Heap} {i z : Addr} {ty : String} {x : Str} {t : Tok} {k : Nat} (e : h.IsStrIter i ty x t k) (hk : Heap.ExtBut z h h') (hne : i ≠ z) : h'.IsStrIter i ty x t k := let ⟨o, e1, r⟩ := e; ⟨o, hk _ _ hne e1, r⟩
section
variable {prog : Program} {w : World} {A : Around} {E : Value → Shared → Prop} {s : Shared} {z TI TO i1 i2 l2 : Addr} {k : Nat} {X : Str} {t : Tok} {ys : Array Value}
theorem zipS_item {c : Nat} {y a b : Value} {Q : Value → Shared → Prop} (D : ZApart z TI TO i1 i2 l2)
    (hz : IsZip s.heap z TI TO .none) (hTI : IsPair s.heap TI (.ref i1) (.ref i2)) (hTO : IsPair s.heap TO a b)
    (h1 : s.heap.IsStrIter i1 "str_ascii_iterator" X t k) (h2 : s.heap.IsListIter i2 l2 k) (hl2 : s.heap.IsList l2 ys) (hx : X.cps[k]? = some c) (hy : ys[k]? = some y)
    (hQ : ∀ h' u, IsZip h' z TI TO (rawInt s.heap.objs.size) → IsPair h' TO (.str ⟨#[c]⟩ u) y → h'.IsStrIter i1 "str_ascii_iterator" X t (k + 1) → h'.IsListIter i2 l2 (k + 1) → IsPair h' s.heap.objs.size (.str ⟨#[c]⟩ u) y →
      (∀ c o, c ≠ z → c ≠ TO → c ≠ i1 → c ≠ i2 → s.heap.get? c = some o → h'.get? c = some o) → Q (.ref s.heap.objs.size) { s with heap := h', toks := s.toks + 1 }) :
    wpAny (model prog w) A (Builtin.«zip.__next__» ⟨[.ref z], []⟩) (fun fin s' => ∃ v, fin = .done (.ret v) ∧ Q v s') E s := by
  show wpAny _ _ (field (.ref z) 2 >>= _) _ _ _
  refine wpAny_bind (wpAny_field hz rfl (x := .bool false) rfl ?_)
  show wpAny _ _ (field (.ref z) 3 >>= _) _ _ _
  refine wpAny_bind (wpAny_field hz rfl (x := .ref TI) rfl ?_)
  refine wpAny_bind (wpAny_seqItems hTI rfl ?_)
  show wpAny _ _ (Builtin.SmallTypes.ownedTupleIsFree (.ref z) >>= _) _ _ _
  refine wpAny_bind ?_
  unfold Builtin.SmallTypes.ownedTupleIsFree
  refine wpAny_bind (wpAny_field hz rfl (x := .none) rfl (wpAny_pure ?_))
  simp only [if_true]
  refine wpAny_bind (wpAny_rule (wpAny_bind (wpAny_field hz rfl (x := .ref TO) rfl ?_)))
  refine wpAny_bind (wpAny_setField_rec hz (by simp) fun g₁ hz₁ hs₁ => ?_)
  replace hz₁ : IsZip g₁ z TI TO .ellipsis := hz₁
  refine wpAny_bind ?_
  simp only [List.zipIdx_cons, List.zipIdx_nil, List.forIn_cons, List.forIn_nil]
  refine wpAny_bind (wpAny_bind (wpAny_onRaise ?_))
  show wpAny _ _ (Builtin.SmallTypes.nextOf (.ref i1) >>= _) _ _ _
  refine wpAny_bind (wpAny_nextOf_ascii_item (IsStrIter.ext h1 hs₁.extBut D.i1z) hx fun g₂ h1₂ hs₂ => wpAny_pure ?_)
  have hTO₂ : IsPair g₂ TO a b := hs₂.extBut _ _ D.TOi1 (hs₁.extBut _ _ D.TOz hTO)
  refine wpAny_bind (wpAny_seqItems hTO₂ rfl (wpAny_bind (wpAny_updateSeq_pair hTO₂ fun g₃ hTO₃ hs₃ => ?_)))
  generalize s.toks = u at *
  replace hTO₃ : IsPair g₃ TO (.str ⟨#[c]⟩ u) b := hTO₃
  refine wpAny_bind (wpAny_letGo (wpAny_pure ?_))
  refine wpAny_bind (wpAny_bind (wpAny_onRaise ?_))
  show wpAny _ _ (Builtin.SmallTypes.nextOf (.ref i2) >>= _) _ _ _
  refine wpAny_bind (wpAny_nextOf_list_item (((h2.extBut hs₁.extBut D.i2z).extBut hs₂.extBut D.i12.symm).extBut hs₃.extBut D.TOi2.symm)
    (((hl2.extBut hs₁.extBut D.l2z).extBut hs₂.extBut D.l2i1).extBut hs₃.extBut D.l2TO) hy fun g₄ h2₄ hs₄ => wpAny_pure ?_)
  have hTO₄ : IsPair g₄ TO (.str ⟨#[c]⟩ u) b := hs₄.extBut _ _ D.TOi2 hTO₃
  refine wpAny_bind (wpAny_seqItems hTO₄ rfl (wpAny_bind (wpAny_updateSeq_pair hTO₄ fun g₅ hTO₅ hs₅ => ?_)))
  replace hTO₅ : IsPair g₅ TO (.str ⟨#[c]⟩ u) y := hTO₅
  refine wpAny_bind (wpAny_letGo (wpAny_pure (wpAny_pure ?_)))
  refine wpAny_bind (wpAny_seqItems hTO₅ rfl (wpAny_bind (wpAny_newTuple ?_)))
  have hsz : g₅.objs.size = s.heap.objs.size := by rw [hs₅.1, hs₄.1, hs₃.1, hs₂.1, hs₁.1]
  have hz₅ : IsZip g₅ z TI TO .ellipsis := hs₅.extBut _ _ D.TOz.symm (hs₄.extBut _ _ D.i2z.symm (hs₃.extBut _ _ D.TOz.symm (hs₂.extBut _ _ D.i1z.symm hz₁)))
  have hk₅ : ∀ c o, c ≠ z → c ≠ TO → c ≠ i1 → c ≠ i2 → s.heap.get? c = some o → g₅.get? c = some o := fun c o c1 c2 c3 c4 e =>
    hs₅.extBut _ _ c2 (hs₄.extBut _ _ c4 (hs₃.extBut _ _ c2 (hs₂.extBut _ _ c3 (hs₁.extBut _ _ c1 e))))
  have h1₅ : g₅.IsStrIter i1 "str_ascii_iterator" X t (k + 1) := IsStrIter.ext (IsStrIter.ext (IsStrIter.ext h1₂ hs₃.extBut D.TOi1.symm) hs₄.extBut D.i12) hs₅.extBut D.TOi1.symm
  have h2₅ : g₅.IsListIter i2 l2 (k + 1) := h2₄.extBut hs₅.extBut D.TOi2.symm
  have hzlt : z < g₅.objs.size := Heap.lt_size hz₅
  show wpAny _ _ (Builtin.SmallTypes.ownedTupleHandOut (.ref z) (.ref g₅.objs.size) >>= _) _ _ _
  refine wpAny_bind ?_
  unfold Builtin.SmallTypes.ownedTupleHandOut
  have hz₆ : IsZip (g₅.push { cls := .type "tuple", data := .seq #[.str ⟨#[c]⟩ u, y] }) z TI TO .ellipsis := Heap.get?_push_of_some _ hz₅
  refine wpAny_bind (wpAny_setField_rec hz₆ (by simp) fun g₇ hz₇ hs₇ => ?_)
  replace hz₇ : IsZip g₇ z TI TO (rawInt g₅.objs.size) := hz₇
  refine wpAny_setField_rec hz₇ (by simp) fun g₈ hz₈ hs₈ => ?_
  replace hz₈ : IsZip g₈ z TI TO (rawInt g₅.objs.size) := hz₈
  have up : ∀ c o, c ≠ z → g₅.get? c = some o → g₈.get? c = some o := fun c o c1 e => hs₈.extBut _ _ c1 (hs₇.extBut _ _ c1 (Heap.get?_push_of_some _ e))
  have hT₈ : IsPair g₈ g₅.objs.size (.str ⟨#[c]⟩ u) y := hs₈.extBut _ _ (Nat.ne_of_gt hzlt) (hs₇.extBut _ _ (Nat.ne_of_gt hzlt) (Heap.get?_push_size _ rfl))
  rw [hsz] at hz₈ hT₈
  refine wpAny_pure ⟨_, rfl, ?_⟩
  show Q (.ref g₅.objs.size) _
  rw [hsz]
  exact hQ g₈ u hz₈ (up _ _ D.TOz hTO₅) (let ⟨o, e, r⟩ := h1₅; ⟨o, up _ o D.i1z e, r⟩) (h2₅.at fun o e => up _ o D.i2z e) hT₈ fun c o c1 c2 c3 c4 e => up c o c1 (hk₅ c o c1 c2 c3 c4 e)
theorem zipS_end {a b : Value} {Q : Fin → Shared → Prop} (hh : A.handled = none) (D : ZApart z TI TO i1 i2 l2) (hz : IsZip s.heap z TI TO .none) (hTI : IsPair s.heap TI (.ref i1) (.ref i2)) (hTO : IsPair s.heap TO a b)
    (h1 : s.heap.IsStrIter i1 "str_ascii_iterator" X t k) (hx : X.cps[k]? = none)
    (hE : ∀ h' e, (∀ c o, c ≠ z → c ≠ TO → c ≠ i1 → c ≠ i2 → s.heap.get? c = some o → h'.get? c = some o) → (∃ o, h'.get? e = some o ∧ o.cls = .type "StopIteration") → E (.ref e) { s with heap := h' }) :
    wpAny (model prog w) A (Builtin.«zip.__next__» ⟨[.ref z], []⟩) Q E s := by
  show wpAny _ _ (field (.ref z) 2 >>= _) _ _ _
  refine wpAny_bind (wpAny_field hz rfl (x := .bool false) rfl ?_)
  show wpAny _ _ (field (.ref z) 3 >>= _) _ _ _
  refine wpAny_bind (wpAny_field hz rfl (x := .ref TI) rfl ?_)
  refine wpAny_bind (wpAny_seqItems hTI rfl ?_)
  show wpAny _ _ (Builtin.SmallTypes.ownedTupleIsFree (.ref z) >>= _) _ _ _
  refine wpAny_bind ?_
  unfold Builtin.SmallTypes.ownedTupleIsFree
  refine wpAny_bind (wpAny_field hz rfl (x := .none) rfl (wpAny_pure ?_))
  simp only [if_true]
  refine wpAny_bind (wpAny_rule (wpAny_bind (wpAny_field hz rfl (x := .ref TO) rfl ?_)))
  refine wpAny_bind (wpAny_setField_rec hz (by simp) fun g₁ hz₁ hs₁ => ?_)
  replace hz₁ : IsZip g₁ z TI TO .ellipsis := hz₁
  refine wpAny_bind ?_
  simp only [List.zipIdx_cons, List.zipIdx_nil, List.forIn_cons, List.forIn_nil]
  refine wpAny_bind (wpAny_bind (wpAny_onRaise ?_))
  show wpAny _ _ (Builtin.SmallTypes.nextOf (.ref i1) >>= _) _ _ _
  refine wpAny_bind (wpAny_nextOf_ascii_end hh (IsStrIter.ext h1 hs₁.extBut D.i1z) hx fun g₂ e hs₂ he => ?_)
  obtain ⟨oe, hoe, hce⟩ := he
  have hz₂ : IsZip g₂ z TI TO .ellipsis := hs₂ _ _ D.i1z.symm hz₁
  have hez : e ≠ z := fun x => by subst x; rw [hz₂] at hoe; cases hoe; simp at hce
  exact wpAny_setField_rec hz₂ (by simp) fun g₃ _ hs₃ => hE g₃ e (fun c o c1 _ c3 _ x => hs₃.extBut _ _ c1 (hs₂ _ _ c3 (hs₁.extBut _ _ c1 x))) ⟨oe, hs₃.extBut _ _ hez hoe, hce⟩
theorem pyNext_zipS_item {c : Nat} {y a b : Value} {Q : Option Value → Shared → Prop} (D : ZApart z TI TO i1 i2 l2)
    (hz : IsZip s.heap z TI TO .none) (hTI : IsPair s.heap TI (.ref i1) (.ref i2)) (hTO : IsPair s.heap TO a b)
    (h1 : s.heap.IsStrIter i1 "str_ascii_iterator" X t k) (h2 : s.heap.IsListIter i2 l2 k) (hl2 : s.heap.IsList l2 ys) (hx : X.cps[k]? = some c) (hy : ys[k]? = some y)
    (hQ : ∀ h' u, IsZip h' z TI TO (rawInt s.heap.objs.size) → IsPair h' TO (.str ⟨#[c]⟩ u) y → h'.IsStrIter i1 "str_ascii_iterator" X t (k + 1) → h'.IsListIter i2 l2 (k + 1) → IsPair h' s.heap.objs.size (.str ⟨#[c]⟩ u) y →
      (∀ c o, c ≠ z → c ≠ TO → c ≠ i1 → c ≠ i2 → s.heap.get? c = some o → h'.get? c = some o) → Q (some (.ref s.heap.objs.size)) { s with heap := h', toks := s.toks + 1 }) :
    wpAny (model prog w) A (pyNext (.ref z)) Q E s := by
  have hT : s.TypeIs (.ref z) "zip" := ⟨_, hz, rfl⟩
  unfold pyNext
  exact wpAny_bind (wpAny_attempt (wpAny_callSpecial?_slot (name := Str.ofString "__next__") hT PySem.F.slot_zip_next
    (wpAny_call_entry PySem.F.slot_zip_next hT PySem.F.entry_zip_next
      (zipS_item D hz hTI hTO h1 h2 hl2 hx hy fun h' u a1 a2 a3 a4 a5 a7 => wpAny_pure (hQ h' u a1 a2 a3 a4 a5 a7)) (PySem.F.args_zip_next_1 _))))
theorem pyNext_zipS_end {a b : Value} {Q : Option Value → Shared → Prop} (hh : A.handled = none) (D : ZApart z TI TO i1 i2 l2) (hz : IsZip s.heap z TI TO .none) (hTI : IsPair s.heap TI (.ref i1) (.ref i2)) (hTO : IsPair s.heap TO a b)
    (h1 : s.heap.IsStrIter i1 "str_ascii_iterator" X t k) (hx : X.cps[k]? = none) (hQ : ∀ h', (∀ c o, c ≠ z → c ≠ TO → c ≠ i1 → c ≠ i2 → s.heap.get? c = some o → h'.get? c = some o) → Q none { s with heap := h' }) : wpAny (model prog w) A (pyNext (.ref z)) Q E s := by
  have hT : s.TypeIs (.ref z) "zip" := ⟨_, hz, rfl⟩
  unfold pyNext
  refine wpAny_bind (wpAny_attempt (wpAny_callSpecial?_slot (name := Str.ofString "__next__") hT PySem.F.slot_zip_next
    (wpAny_call_entry PySem.F.slot_zip_next hT PySem.F.entry_zip_next (zipS_end hh D hz hTI hTO h1 hx fun h' e hk he => ?_) (PySem.F.args_zip_next_1 _))))
  obtain ⟨o, ho, hc⟩ := he
  exact wpAny_bind (wpAny_isInstance (T := "StopIteration") (b := true) ⟨o, ho, hc⟩ isSubtype_stop (wpAny_pure (hQ _ hk)))
noncomputable abbrev zsH1 (h : Heap) (X : Str) (t : Tok) : Heap := h.push { cls := .type "str_ascii_iterator", data := .fields #[.str X t, .int 0 0] }
noncomputable abbrev zsH2 (h : Heap) (X : Str) (t : Tok) (l2 : Addr) : Heap := (zsH1 h X t).push { cls := .type "list_iterator", data := .fields #[.ref l2, .int 0 0] }
noncomputable abbrev zsH3 (h : Heap) (X : Str) (t : Tok) (l2 : Addr) : Heap := (zsH2 h X t l2).push { cls := .type "tuple", data := .seq #[.ref h.objs.size, .ref (zsH1 h X t).objs.size] }
noncomputable abbrev zsH4 (h : Heap) (X : Str) (t : Tok) (l2 : Addr) : Heap := (zsH3 h X t l2).push { cls := .type "tuple", data := .seq #[.none, .none] }
noncomputable abbrev zsH5 (h : Heap) (X : Str) (t : Tok) (l2 : Addr) : Heap := (zsH4 h X t l2).push { cls := .type "zip", data := .fields #[.none, .bool false, .bool false, .ref (zsH2 h X t l2).objs.size, .ref (zsH3 h X t l2).objs.size] }
set_option maxHeartbeats 4000000 in
theorem meets_zipS (hX : X.cps.all (· < 128) = true) : Meets (Builtin.«zip.__new__» ⟨[.type "zip", .str X t, .ref l2], []⟩) (fun _ R s => s.heap.IsList l2 ys ∧ R (.ok (.ret (.ref (zsH4 s.heap X t l2).objs.size))) { s with heap := zsH5 s.heap X t l2 }) :=
  .of_wp fun prog w A R s h => by
    obtain ⟨hp, g, d, tk, os⟩ := s; obtain ⟨hl2, h⟩ := h
    have hsub := sub_zip
    have hL2 : Heap.IsList (Shared.heap ⟨hp.push { cls := .type "str_ascii_iterator", data := .fields #[.str X t, .int 0 0] }, g, d, tk, os⟩) l2 ys := Heap.IsList.push hl2 _
    wp_walk using wpAny_pyIter_ascii hX, wpAny_pyIter_list hL2
    exact ⟨_, rfl, h⟩
end
section
variable {prog : Program} {A : Around} {E : Value → Shared → Prop} {s : Shared} {l2 : Addr} {X : Str} {t : Tok} {ys : Array Value}
theorem call_zipS {w : World} {Q : Value → Shared → Prop} (hX : X.cps.all (· < 128) = true) (hl2 : s.heap.IsList l2 ys)
    (h : ∀ h', IsZip h' (s.heap.objs.size + 4) (s.heap.objs.size + 2) (s.heap.objs.size + 3) .none → IsPair h' (s.heap.objs.size + 2) (.ref s.heap.objs.size) (.ref (s.heap.objs.size + 1)) →
      IsPair h' (s.heap.objs.size + 3) .none .none → h'.IsStrIter s.heap.objs.size "str_ascii_iterator" X t 0 → h'.IsListIter (s.heap.objs.size + 1) l2 0 →
      (∀ c o, s.heap.get? c = some o → h'.get? c = some o) → Q (.ref (s.heap.objs.size + 4)) { s with heap := h' }) :
    wpAny (model prog w) A (call (.type "zip") [.str X t, .ref l2]) Q E s := by
  refine callType_new PySem.F.called_zip (by decide) (PySem.F.typeCall_zip_2 _ _) (PySem.F.newCall_zip_2 _ _) (fun obj => PySem.F.args_object_init_3 obj _ _) PySem.F.entry_zip_new
    (meets_zipS hX) ⟨hl2, ?_⟩
  have z1 : (zsH1 s.heap X t).objs.size = s.heap.objs.size + 1 := Heap.size_push ..
  have z2 : (zsH2 s.heap X t l2).objs.size = s.heap.objs.size + 2 := by rw [Heap.size_push, z1]
  have z3 : (zsH3 s.heap X t l2).objs.size = s.heap.objs.size + 3 := by rw [Heap.size_push, z2]
  have z4 : (zsH4 s.heap X t l2).objs.size = s.heap.objs.size + 4 := by rw [Heap.size_push, z3]
  have g5 : (zsH5 s.heap X t l2).get? (zsH4 s.heap X t l2).objs.size = some _ := Heap.get?_push_size _ rfl
  have g4 : (zsH5 s.heap X t l2).get? (zsH3 s.heap X t l2).objs.size = some _ := Heap.get?_push_of_some _ (Heap.get?_push_size _ rfl)
  have g3 : (zsH5 s.heap X t l2).get? (zsH2 s.heap X t l2).objs.size = some _ := Heap.get?_push_of_some _ (Heap.get?_push_of_some _ (Heap.get?_push_size _ rfl))
  have g2 : (zsH5 s.heap X t l2).get? (zsH1 s.heap X t).objs.size = some _ := Heap.get?_push_of_some _ (Heap.get?_push_of_some _ (Heap.get?_push_of_some _ (Heap.get?_push_size _ rfl)))
  have g1 : (zsH5 s.heap X t l2).get? s.heap.objs.size = some _ := Heap.get?_push_of_some _ (Heap.get?_push_of_some _ (Heap.get?_push_of_some _ (Heap.get?_push_of_some _ (Heap.get?_push_size _ rfl))))
  show _ ∧ _
  rw [z2, z3, z4] at g5
  rw [z1, z2] at g3
  rw [z3] at g4
  rw [z1] at g2
  rw [z4]
  exact ⟨⟨_, g5, rfl⟩, h _ g5 g3 g4 ⟨_, g1, rfl, rfl⟩ ⟨_, g2, rfl, rfl⟩ fun c o x =>
    Heap.get?_push_of_some _ (Heap.get?_push_of_some _ (Heap.get?_push_of_some _ (Heap.get?_push_of_some _ (Heap.get?_push_of_some _ x))))⟩
theorem Src.zipS {C : Base} {Mu : Addr → Prop} {elts : List Expr} {n : Nat} {pos : Pos} {z TI TO i1 i2 : Addr} {x : List Nat} {us : List Value} {es : List D} {h0 : Heap} (hh : A.handled = none) (Dz : ZApart z TI TO i1 i2 l2)
    (hn : ∀ a, a = z ∨ a = TI ∨ a = TO ∨ a = i1 ∨ a = i2 → h0.get? a = none) (r2 : RepL (vis Mu h0) us es) (hl2 : ∃ o, vis Mu h0 l2 o ∧ o.cls = .type "list" ∧ ∃ n, o.data = .seq us.toArray n) (hlen : x.length = es.length) :
    Src prog C A (.Tuple elts n pos) z (zipL (x.map fun c => D.str [c]) es) (fun a => a = z ∨ a = TI ∨ a = TO ∨ a = i1 ∨ a = i2) (fun a => ∃ o, vis Mu h0 a o)
      (fun i h => IsZip h z TI TO .none ∧ IsPair h TI (.ref i1) (.ref i2) ∧ (∃ a b, IsPair h TO a b) ∧ h.IsStrIter i1 "str_ascii_iterator" (mkS x) t i ∧ h.IsListIter i2 l2 i ∧ ∀ a o, vis Mu h0 a o → h.get? a = some o) where
  frame := by
    rintro i h h' ⟨hz, hTI, ⟨a, b, hTO⟩, ⟨o1, e1, r1⟩, h2, hv⟩ hk
    exact ⟨hk z _ (by simp) hz, hk TI _ (by simp) hTI, ⟨a, b, hk TO _ (by simp) hTO⟩, ⟨o1, hk i1 _ (by simp) e1, r1⟩, h2.at fun o e => hk i2 o (by simp) e, fun a o v => hk a o (.inr ⟨o, v⟩) (hv a o v)⟩
  live := by
    rintro i h ⟨hz, hTI, ⟨a, b, hTO⟩, ⟨o1, h1, _⟩, ⟨o2, h2, _⟩, hv⟩ a ((rfl | rfl | rfl | rfl | rfl) | ⟨o, v⟩)
    · exact ⟨_, hz⟩
    · exact ⟨_, hTI⟩
    · exact ⟨_, hTO⟩
    · exact ⟨_, h1⟩
    · exact ⟨_, h2⟩
    · exact ⟨o, hv a o v⟩
  item := by
    rintro i d s Mu' Q E hi ⟨hz, hTI, ⟨a, b, hTO⟩, h1, h2, hv⟩ hrd hm hQ
    obtain ⟨o2, v2, hc2, n2, hd2⟩ := hl2
    rw [zipL, List.getElem?_zipWith] at hi
    obtain ⟨c, hc, y, hy, rfl⟩ : ∃ c, x[i]? = some c ∧ ∃ y, es[i]? = some y ∧ d = .tup [.str [c], y] := by
      rw [List.getElem?_map] at hi
      cases hx : x[i]? <;> cases hy : es[i]? <;> rw [hx, hy] at hi <;> simp at hi
      exact ⟨_, rfl, _, rfl, hi.symm⟩
    obtain ⟨u, huu, ru⟩ := r2.get hy
    have lt : ∀ {c o}, s.heap.get? c = some o → c ≠ s.heap.objs.size := fun e => Nat.ne_of_lt (Heap.lt_size e)
    refine pyNext_zipS_item Dz hz hTI hTO h1 h2 ⟨o2, hv _ _ v2, hc2, n2, hd2⟩ (c := c) (y := u) (by show (List.toArray x)[i]? = _; rw [List.getElem?_toArray]; exact hc) (by rw [List.getElem?_toArray]; exact huu) fun h' tk a1 a2 a3 a4 a5 hk => ?_
    refine ⟨_, rfl, wpAny_letOwnedTupleGo_zip a1 fun h₂ hz₂ hs₂ => ?_⟩
    have kp : ∀ a o, ¬ (a = z ∨ a = TI ∨ a = TO ∨ a = i1 ∨ a = i2) → s.heap.get? a = some o → h₂.get? a = some o := fun a o hw x => by
      simp only [not_or] at hw
      exact hs₂.extBut a o hw.1 (hk a o hw.1 hw.2.2.1 hw.2.2.2.1 hw.2.2.2.2 x)
    have nw : ∀ a o, vis Mu h0 a o → ¬ (a = z ∨ a = TI ∨ a = TO ∨ a = i1 ∨ a = i2) := fun a o v hw => by have := v.2; rw [hn a hw] at this; cases this
    refine hQ _ h₂ (s.toks + 1) (fun a o hw x => kp a o hw x) ⟨hz₂, hs₂.extBut _ _ Dz.TIz (hk _ _ Dz.TIz Dz.TITO Dz.TIi1 Dz.TIi2 hTI), ⟨_, _, hs₂.extBut _ _ Dz.TOz a2⟩, IsStrIter.ext a3 hs₂.extBut Dz.i1z, a4.extBut hs₂.extBut Dz.i2z, fun a o v => kp a o (nw a o v) (hv a o v)⟩ ?_
    have hzT : s.heap.objs.size ≠ z := (lt hz).symm
    have hTm : ¬ (Mu' s.heap.objs.size ∨ s.heap.objs.size = z ∨ s.heap.objs.size = TI ∨ s.heap.objs.size = TO ∨ s.heap.objs.size = i1 ∨ s.heap.objs.size = i2) := by
      rintro (h | h | h | h | h | h)
      · obtain ⟨o, x⟩ := hm _ h; exact absurd (Heap.lt_size x) (Nat.lt_irrefl _)
      · exact lt hz h.symm
      · exact lt hTI h.symm
      · exact lt hTO h.symm
      · obtain ⟨_, x, _⟩ := h1; exact lt x h.symm
      · obtain ⟨_, x, _⟩ := h2; exact lt x h.symm
    exact .tup (vs := [_, _]) (n := 0) ⟨hTm, hs₂.extBut _ _ hzT a5⟩ (.cons (.str [c] tk) (.cons (ru.mono fun a o v => ⟨fun h => h.elim (hrd a ⟨o, v⟩) (nw a o v), kp a o (nw a o v) (hv a o v)⟩) .nil))
  done := by
    rintro s Q E ⟨hz, hTI, ⟨a, b, hTO⟩, h1, h2, hv⟩ hQ
    have hl : (zipL (x.map fun c => D.str [c]) es).length = x.length := by simp [zipL]; omega
    rw [hl] at h1
    refine pyNext_zipS_end hh Dz hz hTI hTO h1 (by show (List.toArray x)[x.length]? = none; simp) fun h' hk => hQ h' s.toks fun c o hc e => ?_
    simp only [not_or] at hc
    exact hk c o hc.1 hc.2.2.1 hc.2.2.2.1 hc.2.2.2.2 e
  self := fun i s Q E ⟨hz, _⟩ hQ => wpAny_pyIter_zip hz hQ
variable {C : Base} {k : Nat} {F : Fn} {ρ : Rho}
theorem SrcE.zipS (H : FOK F) {p pos pt : Pos} {e f : Expr} {elts : List Expr} {n : Nat} {x : List Nat} {es : List D} (hx : F.env.kindOf "zip" = some .globalImplicit) (ha : x.all (· < 128) = true) (hlen : x.length = es.length)
    (he : EV C k F ρ e (.str x)) (hf : EV C k F ρ f (.list es)) (hse : starEach [e, f] F.env = (false, eval e F.env) :: starEach [f] F.env := by rfl) (hsf : starEach [f] F.env = (false, eval f F.env) :: starEach [] F.env := by rfl) (hp : (backTo pos (starEach [f] F.env)).any (·.1) = false := by rfl) : SrcE C k F ρ (.Call (.Name "zip" p) [e, f] [] pos) (.Tuple elts n pt) (zipL (x.map fun c => D.str [c]) es) := by
  refine SrcE.mk ?_
  intro prog A s Q E hA hs hQ
  have hm : ((Str.ofString "zip" : Str), Value.type "zip") ∈ biList := by decide
  refine wpAny_Call_NameR (Calls.Name_function_global H.kind hx (Calls.loadGlobal_builtin (hs.mg H) (C.bi _ hm).1 (hs.mb H) (C.bi _ hm).2 ?_) (by decide +kernel))
  refine PyProof.Rows.callWith_type1 ((EVs.cons H he (EVs.cons H hf EVs.nil hsf) hse).run _ _ _ _ _ _ hA hs fun vs s₁ y₁ rs => ?_) hse hp
  obtain ⟨v, u, rfl, r1, r2⟩ := rs.two
  obtain ⟨t1, rfl⟩ := r1.str_i
  obtain ⟨l2, n2, us, rfl, x2, y2⟩ := r2.list_i
  refine call_zipS (by show (List.toArray x).all (· < 128) = true; rw [List.all_toArray]; exact ha) (isList_of x2.2) fun h' hz hTI hTO h1 h2 hk => wpAny_pyIter_zip hz ?_
  have hlt2 := Heap.lt_size x2.2
  have nn : ∀ a, a = s₁.heap.objs.size + 4 ∨ a = s₁.heap.objs.size + 2 ∨ a = s₁.heap.objs.size + 3 ∨ a = s₁.heap.objs.size ∨ a = s₁.heap.objs.size + 1 → s₁.heap.get? a = none := fun a ha => none_of_le (le5 _ _ ha)
  refine hQ _ _ _ _ _ (Src.zipS (us := us) (h0 := s₁.heap) (l2 := l2) (t := t1) hA.1 (zapart5 _ _ hlt2) nn y2 ⟨_, x2, rfl, _, rfl⟩ hlen) (fun a ⟨o, v⟩ => v.1) (y₁.trans (Step.of hk)) ?_ ?_ ⟨hz, hTI, ⟨_, _, hTO⟩, h1, h2, fun a o v => hk _ _ v.2⟩
  · intro a ha; exact y₁.none_of hs.ok.tabs (nn a ha)
  · rintro a (rfl | rfl | rfl | rfl | rfl) q
    · exact notCode hz (fun vs q t e => by cases e; intro h; cases h) q
    · exact notCode hTI (fun vs q t e => by cases e) q
    · exact notCode hTO (fun vs q t e => by cases e) q
    · obtain ⟨o, e1, _, e2⟩ := h1
      exact notCode e1 (fun vs q t e => by rw [e2] at e; cases e; intro h; cases h) q
    · obtain ⟨o, e1, _, e2⟩ := h2
      exact notCode e1 (fun vs q t e => by rw [e2] at e; cases e; intro h; cases h) q
end
theorem owner_rev : Manifest.owners.lookup (String.ofList ['d', 'e', 's', 'r', 'e', 'v', 'e', 'r'].reverse) = some Manifest.sig_reversed := by kernel_rfl
theorem slot_rev_next : Slot "reversed" "__next__" "reversed.__next__" :=
  .of (owner := "reversed") (n := "__next__") (by rw [typeLookup_type, builtinLookup_eq_fast]; kernel_rfl) (by decide +kernel) (by decide +kernel) (by decide +kernel)
    (by first | exact .inl (by decide +kernel) | exact .inr (by decide +kernel)) (by rw [isSubtype_type]; kernel_rfl)
theorem entry_rev_next : entryFor table "reversed.__next__" = some Builtin.«reversed.__next__» := entryFor_of_tree (by kernel_rfl)
theorem args_rev_next_1 (a : Value) : argsOk "reversed.__next__" ⟨[a], []⟩ := by unfold argsOk; kernel_rfl
theorem slot_rev_iter : Slot "reversed" "__iter__" "reversed.__iter__" :=
  .of (owner := "reversed") (n := "__iter__") (by rw [typeLookup_type, builtinLookup_eq_fast]; kernel_rfl) (by decide +kernel) (by decide +kernel) (by decide +kernel)
    (by first | exact .inl (by decide +kernel) | exact .inr (by decide +kernel)) (by rw [isSubtype_type]; kernel_rfl)
theorem args_rev_iter_1 (a : Value) : argsOk "reversed.__iter__" ⟨[a], []⟩ := by unfold argsOk; kernel_rfl
theorem entry_rev_iter : entryFor table "reversed.__iter__" = some Builtin.«dict_keyiterator.__iter__» :=
  entryFor_alias (id' := "dict_keyiterator.__iter__") (by kernel_rfl) (by first | rfl | decide +kernel | (unfold String.splitOn; simp +decide [String.splitOnAux])) (by decide +kernel) (by kernel_rfl)
theorem slot_rev_init : Slot "reversed" "__init__" "object.__init__" :=
  .of (owner := "object") (n := "__init__") (by rw [typeLookup_type, builtinLookup_eq_fast]; kernel_rfl) (by decide +kernel) (by decide +kernel) (by decide +kernel)
    (by first | exact .inl (by decide +kernel) | exact .inr (by decide +kernel)) (by rw [isSubtype_type]; kernel_rfl)
theorem args_object_init_2 (a b : Value) : argsOk "object.__init__" ⟨[a, b], []⟩ := by unfold argsOk; kernel_rfl
theorem called_rev : TypeCalled "reversed" "reversed.__new__" "object.__init__" :=
  ⟨by decide +kernel, PySem.F.create_reversed, ⟨_, _, PySem.F.mro_reversed⟩, PySem.F.made_reversed, PySem.F.plain_reversed_new, PySem.F.sub_reversed_self, slot_rev_init⟩
theorem str_no_reversed : typeLookup (.type "str") "__reversed__" = pure none := by rw [typeLookup_type, builtinLookup_eq_fast]; kernel_rfl
theorem str_not_dict : isSubtype (.type "str") (.type "dict") = pure false := by rw [isSubtype_type]; kernel_rfl
noncomputable def revO (x : Str) (t : Tok) (i : Int) : Obj := { cls := .type "reversed", data := .fields #[.str x t, rawInt i] }
section
variable {prog : Program} {w : World} {A : Around} {E : Value → Shared → Prop} {s : Shared}
set_option maxHeartbeats 2000000 in
theorem rev_new {x : Str} {t : Tok} {Q : Fin → Shared → Prop} (hx : x.length < 2 ^ 40)
    (h : Q (.done (.ret (.ref s.heap.objs.size))) { s with heap := s.heap.push (revO x t ((x.length : Int) - 1)), toks := s.toks + 1 + 1 }) :
    wpAny (model prog w) A (Builtin.«reversed.__new__» ⟨[.type "reversed", .str x t], []⟩) Q E s := by
  unfold Builtin.«reversed.__new__»
  refine wpAny_bind (wpAny_of_eq (newClass_reversed _) ?_)
  try dsimp only
  refine wpAny_bind (wpAny_of_eq (a := ()) (by first | rfl | kernel_rfl) ?_)
  refine wpAny_bind (wpAny_of_eq (a := ()) (by first | rfl | kernel_rfl) ?_)
  try dsimp only
  refine wpAny_bind (wpAny_specialOf (T := "str") (typeIs_str _ _ _) str_no_reversed ?_)
  try dsimp only
  have hd := str_not_dict
  have hg := PySem.F.slot_str_getitem.lookup
  refine wpAny_bind ?_
  show wpAny _ _ (isInstance (.str x t) (.type "dict") >>= _) _ _ _
  refine wpAny_bind (wpAny_isInstance (T := "str") (typeIs_str _ _ _) str_not_dict ?_)
  try dsimp only
  show wpAny _ _ (specialOf (.str x t) "__getitem__" >>= _) _ _ _
  refine wpAny_bind (wpAny_specialOf (T := "str") (typeIs_str _ _ _) PySem.F.slot_str_getitem.lookup ?_)
  try dsimp only
  show wpAny _ _ (if (["tuple.__getitem__", "str.__getitem__", "bytes.__getitem__", "bytearray.__getitem__", "memoryview.__getitem__", "numpy.ndarray.__getitem__", "sqlite3.Row.__getitem__"].contains "str.__getitem__") = true then _ else _) _ _ _
  rw [if_pos (by decide +kernel)]
  refine wpAny_pure ?_
  rw [if_neg (by decide)]
  refine wpAny_bind (len_str (by omega) ?_)
  refine wpAny_bind (wpAny_of_eq (a := some (x.length : Int)) rfl ?_)
  try dsimp only
  refine wpAny_bind ?_
  unfold Builtin.SmallTypes.newRecord
  exact wpAny_newObj_type (wpAny_pure h) (by size_fits)
theorem call_rev {x : Str} {t : Tok} {Q : Value → Shared → Prop} (hx : x.length < 2 ^ 40) (h : Q (.ref s.heap.objs.size) { s with heap := s.heap.push (revO x t ((x.length : Int) - 1)), toks := s.toks + 1 + 1 }) :
    wpAny (model prog w) A (call (.type "reversed") [.str x t]) Q E s :=
  callType_new called_rev (by decide) (PySem.F.typeCall_reversed_1 _) (PySem.F.newCall_reversed_1 _) (fun obj => args_object_init_2 obj _) PySem.F.entry_reversed_new
    (S := fun _ R s => R (.ok (.ret (.ref s.heap.objs.size))) { s with heap := s.heap.push (revO x t ((x.length : Int) - 1)), toks := s.toks + 1 + 1 }) (.of_wp fun prog w A R s h => rev_new hx ⟨_, rfl, h⟩) ⟨⟨_, Heap.get?_push_size _ rfl, rfl⟩, h⟩
noncomputable def IsRev (h : Heap) (a : Addr) (x : Str) (t : Tok) (i : Int) : Prop := ∃ o, h.get? a = some o ∧ o.cls = .type "reversed" ∧ o.data = .fields #[.str x t, rawInt i]
theorem IsRev.typeIs {a : Addr} {x : Str} {t : Tok} {i : Int} (e : IsRev s.heap a x t i) : s.TypeIs (.ref a) "reversed" := let ⟨o, ho, hc, _⟩ := e; ⟨o, ho, hc⟩
theorem pyIter_rev {a : Addr} {x : Str} {t : Tok} {i : Int} {Q : Value → Shared → Prop} (e : IsRev s.heap a x t i) (h : Q (.ref a) s) : wpAny (model prog w) A (pyIter (.ref a)) Q E s := by
  refine wpAny_pyIter_slot e.typeIs slot_rev_iter (wpAny_call_entry slot_rev_iter e.typeIs entry_rev_iter ?_ (args_rev_iter_1 _))
  show wpAny _ _ (ret (.ref a)) _ _ s
  exact wpAny_pure ⟨_, rfl, "reversed", _, e.typeIs, slot_rev_next.lookup, h⟩
theorem pyNext_rev_item {a : Addr} {x : Str} {t : Tok} {i c : Nat} {Q : Option Value → Shared → Prop} (e : IsRev s.heap a x t (i : Int)) (hx : x.cps[i]? = some c) (hl : x.length < 2 ^ 40)
    (hQ : ∀ h' u tk, IsRev h' a x t ((i : Int) - 1) → Heap.SameBut a s.heap h' → Q (some (.str ⟨#[c]⟩ u)) { s with heap := h', toks := tk }) : wpAny (model prog w) A (pyNext (.ref a)) Q E s := by
  have hT := e.typeIs
  obtain ⟨o, ho, hc, hd⟩ := id e
  have hlt : i < x.length := (Array.getElem?_eq_some_iff.mp hx).1
  unfold pyNext
  refine wpAny_bind (wpAny_attempt (wpAny_callSpecial?_slot (name := Str.ofString "__next__") hT slot_rev_next
    (wpAny_call_entry slot_rev_next hT entry_rev_next ?_ (args_rev_next_1 _))))
  unfold Builtin.«reversed.__next__»
  refine wpAny_bind (wpAny_of_eq (a := (Value.ref a, [])) rfl ?_)
  try dsimp only
  refine wpAny_bind (wpAny_field ho hd (x := .str x t) rfl ?_)
  refine wpAny_bind (wpAny_field ho hd (x := rawInt (i : Int)) rfl ?_)
  show wpAny _ _ (if (i : Int) < 0 then _ else _) _ _ s
  rw [if_neg (by omega)]
  refine wpAny_bind (wpAny_specialOf (T := "str") (typeIs_str _ _ _) PySem.F.slot_str_getitem.lookup ?_)
  try dsimp only
  refine wpAny_ite_split (fun hab => absurd hab (by decide)) (fun _ => ?_)
  refine wpAny_bind (wpAny_mkInt ?_)
  refine wpAny_bind (wpAny_attempt ?_)
  refine P.getItem_str (c := c) ?_ ?_ ?_
  · rw [decide_eq_false (by omega), decide_eq_false (by omega)]; rfl
  · rw [seqIndex_pos (by omega) (by simpa using hlt)]; exact hx
  refine wpAny_bind (wpAny_field ho hd (x := rawInt (i : Int)) rfl ?_)
  refine wpAny_bind (wpAny_setField ho hd (by simp) (wpAny_pure ⟨_, rfl, wpAny_pure (hQ _ _ _ ?_ (Heap.SameBut.update ..))⟩))
  exact ⟨_, Heap.get?_update_self _ ho (Obj.isFreed_of_fields (Obj.data_mapFields hd _)), (Obj.cls_mapFields ..).trans hc, by
    rw [Obj.data_mapFields hd]; simp [rawInt]⟩
theorem pyNext_rev_end {a : Addr} {x : Str} {t : Tok} {Q : Option Value → Shared → Prop} (hh : A.handled = none) (e : IsRev s.heap a x t (-1))
    (hQ : ∀ h', Heap.ExtBut a s.heap h' → Q none { s with heap := h' }) : wpAny (model prog w) A (pyNext (.ref a)) Q E s := by
  have hT := e.typeIs
  obtain ⟨o, ho, hc, hd⟩ := id e
  unfold pyNext
  refine wpAny_bind (wpAny_attempt (wpAny_callSpecial?_slot (name := Str.ofString "__next__") hT slot_rev_next
    (wpAny_call_entry slot_rev_next hT entry_rev_next ?_ (args_rev_next_1 _))))
  unfold Builtin.«reversed.__next__»
  refine wpAny_bind (wpAny_of_eq (a := (Value.ref a, [])) rfl ?_)
  try dsimp only
  refine wpAny_bind (wpAny_field ho hd (x := .str x t) rfl ?_)
  refine wpAny_bind (wpAny_field ho hd (x := rawInt (-1)) rfl ?_)
  show wpAny _ _ (if (-1 : Int) < 0 then _ else _) _ _ s
  rw [if_pos (by decide)]
  refine wpAny_bind (wpAny_rule (wpAny_bind ?_))
  show wpAny _ _ (setField (.ref a) 1 (rawInt (-1)) >>= fun _ => setField (.ref a) 0 .none) _ _ _
  have e1 : (s.heap.update a (Obj.mapFields (·.setIfInBounds 1 (rawInt (-1))))).get? a = some (o.mapFields (·.setIfInBounds 1 (rawInt (-1)))) := Heap.get?_update_self _ ho (Obj.isFreed_of_fields (Obj.data_mapFields hd _))
  have d1 := Obj.data_mapFields hd (·.setIfInBounds 1 (rawInt (-1)))
  refine wpAny_bind (wpAny_setField ho hd (by simp) (wpAny_setField e1 d1 (by simp) ?_))
  refine wpAny_bind ?_
  show wpAny _ _ (newExc (.type "StopIteration") [] >>= _) _ _ _
  refine wpAny_bind ?_
  simp only [newExc, newTuple]
  refine wpAny_bind (wpAny_newObj_type ?_ (by size_fits))
  refine wpAny_bind (m := firstArgMember _ _) (wpAny_of_eq (a := Value.none) (by first | rfl | (simp only [firstArgMember]; rfl)) ?_)
  refine wpAny_newObj_type ?_ (by size_fits)
  simp only [raiseNew]
  refine wpAny_bind (wpAny_handled ?_)
  rw [show A.in1.handled = none from hh]
  refine wpAny_bind (wpAny_pure (wpAny_throw ?_))
  refine wpAny_bind (wpAny_isInstance (T := "StopIteration") (b := true) ⟨_, Heap.get?_push_size _ rfl, rfl⟩ isSubtype_stop ?_)
  refine wpAny_pure (hQ _ ((Heap.ExtBut.push (Heap.ExtBut.push ?_ _) _)))
  exact fun b o hb e => (Heap.get?_update_other _ _ (Ne.symm hb)).trans ((Heap.get?_update_other _ _ (Ne.symm hb)).trans e)
theorem Src.rev {C : Base} {x : List Nat} {px : Pos} {y : Str} {a : Addr} {t : Tok} (hh : A.handled = none) (hl : x.length < 2 ^ 40) :
    Src prog C A (.Name y px) a (x.reverse.map fun c => D.str [c]) (fun b => b = a) (fun _ => False) (fun i h => IsRev h a (mkS x) t ((x.length : Int) - 1 - i)) where
  frame := fun i h h' ⟨o, e, r⟩ hk => ⟨o, hk a o (.inl rfl) e, r⟩
  live := fun i h ⟨o, e, _⟩ b hb => hb.elim (fun q => q ▸ ⟨o, e⟩) False.elim
  item := by
    intro i d s Mu Q E hi hx hrd hm hQ
    rw [List.getElem?_map] at hi
    obtain ⟨c, hc, rfl⟩ := Option.map_eq_some_iff.mp hi
    have hlt : i < x.length := by have := (List.getElem?_eq_some_iff.mp hc).1; simpa using this
    rw [List.getElem?_reverse hlt] at hc
    have e0 : ((x.length : Int) - 1 - i) = ((x.length - 1 - i : Nat) : Int) := by omega
    rw [e0] at hx
    refine pyNext_rev_item hx (c := c) (by show (List.toArray x)[x.length - 1 - i]? = _; rw [List.getElem?_toArray]; exact hc) (by rw [mkS_len]; exact hl) fun h' u tk e' hsb => ⟨_, rfl, wpAny_pure (hQ _ h' tk (fun b o hb e => (hsb.2 b hb).trans e) ?_ (.str [c] u))⟩
    have e1 : ((x.length - 1 - i : Nat) : Int) - 1 = (x.length : Int) - 1 - ((i + 1 : Nat) : Int) := by omega
    rw [← e1]; exact e'
  done := by
    intro s Q E hx hQ
    have e0 : ((x.length : Int) - 1 - ((x.reverse.map fun c => D.str [c]).length : Nat)) = -1 := by rw [List.length_map, List.length_reverse]; omega
    rw [e0] at hx
    exact pyNext_rev_end hh hx fun h' he => hQ h' s.toks fun b o hb e => he b o hb e
  self := fun i s Q E hx hQ => pyIter_rev hx hQ
variable {C : Base} {k : Nat} {F : Fn} {ρ : Rho}
theorem SrcE.revS (H : FOK F) {p pos px : Pos} {e : Expr} {y : Str} {x : List Nat} (hx : F.env.kindOf "reversed" = some .globalImplicit) (hl : x.length < 2 ^ 40)
    (he : EV C k F ρ e (.str x)) (hse : starEach [e] F.env = [(false, eval e F.env)] := by rfl) (hp : (backTo pos (starEach [] F.env)).any (·.1) = false := by rfl) : SrcE C k F ρ (.Call (.Name "reversed" p) [e] [] pos) (.Name y px) (x.reverse.map fun c => D.str [c]) := by
  refine SrcE.mk ?_
  intro prog A s Q E hA hs hQ
  have hm : ((Str.ofString "reversed" : Str), Value.type "reversed") ∈ biList := by decide
  refine wpAny_Call_NameR (Calls.Name_function_global H.kind hx (Calls.loadGlobal_builtin (hs.mg H) (C.bi _ hm).1 (hs.mb H) (C.bi _ hm).2 ?_) (by decide +kernel))
  refine PyProof.Rows.callWith_type1 ((EVs.cons H he EVs.nil hse).run _ _ _ _ _ _ hA hs fun vs s₁ y₁ rs => ?_) hse hp
  obtain ⟨v, rfl, r⟩ := rs.one
  obtain ⟨t, rfl⟩ := r.str_i
  refine call_rev (by rw [mkS_len]; exact hl) ?_
  have hit : IsRev (s₁.heap.push (revO (mkS x) t (((mkS x).length : Int) - 1))) s₁.heap.objs.size (mkS x) t ((x.length : Int) - 1) := ⟨_, Heap.get?_push_size _ rfl, rfl, rfl⟩
  refine pyIter_rev hit ?_
  have hn : s.heap.get? s₁.heap.objs.size = none := y₁.none_of hs.ok.tabs (fresh_none _)
  refine hQ _ _ _ _ _ (Src.rev (t := t) hA.1 hl) (fun _ h => h.elim) (y₁.trans (Step.push (tk := _))) (fun a q => q ▸ hn) (fun a q z => ?_) (by simpa using hit)
  rw [q]; exact notCode (Heap.get?_push_size _ rfl) (fun vs q t e => by cases e; intro h; cases h) z
end
noncomputable def StrDict (w : World) (o : Obj) (f : Str → Option Value) : Prop := ∃ es ep, o.ExactDict ∧ o.data = .dict es ep ∧ (∀ prog, PySem.KeysOf (strKind prog w) es) ∧ ∀ k, findBy Value.isStrOf es k = f k
theorem StrDict.map {w : World} {o : Obj} {f : Str → Option Value} (x : StrDict w o f) (prog : Program) {h : Heap} {a : Addr} (e : h.get? a = some o) : Heap.MapOf (strKind prog w) h a f := let ⟨es, ep, h1, h2, h3, h4⟩ := x; ⟨o, es, ep, e, h1, h2, h3 prog, h4⟩
theorem StrDict.of {prog : Program} {w : World} {h : Heap} {a : Addr} {f : Str → Option Value} (x : Heap.MapOf (strKind prog w) h a f) : ∃ o, h.get? a = some o ∧ StrDict w o f := let ⟨o, es, ep, e, h1, h2, h3, h4⟩ := x; ⟨o, e, es, ep, h1, h2, fun _ => h3, h4⟩
section
variable {C : Base} {k : Nat} {F : Fn} {ρ : Rho}
theorem EV.dictS (H : FOK F) {x : Str} {p pos : Pos} {e : Expr} {a : Addr} {o : Obj} {f : Str → Option Value} {c : Nat} {code : Int} (hm : (x, .obj a [(a, o)]) ∈ ρ) (hd : StrDict C.w o f) (hf : ∃ t, f (mkS [c]) = some (.int code t)) (he : EV C k F ρ e (.str [c]))
    (hs : ∀ o v, subscripted e false o v = operate [o, v] (getItem o v) := by intro _ _; rfl) (hn : (x == ("__debug__" : Str)) = false := by decide +kernel) : EV C k F ρ (.Subscript (.Name x p) e pos) (.int code) := by
  refine EV.mk ?_
  intro prog A s Q E hA hs0 hQ
  obtain ⟨t, hf⟩ := hf
  refine Subscript_ ((EV.name H hm hn).run _ _ _ _ _ hA hs0 fun v s1 y1 r1 => ?_)
  obtain ⟨rfl, hl⟩ := r1.obj_i
  have ho := hl _ (List.mem_cons_self ..)
  have hs1 := hs0.step y1 H.nt
  refine he.run _ _ _ _ _ hA hs1 fun v2 s2 y2 r2 => ?_
  obtain ⟨t2, rfl⟩ := r2.str_i
  have hm := hd.map prog (hs1.ok.vis y2 _ _ ho).2
  exact tail_any hm.typeIs slot_dict_getitem.lookup (wpAny_getItem_of (strKind_is prog C.w _ t2) hm hf (hQ _ _ (y1.trans (y2.trans Step.tok)) (.int _ _))) (hs _ _)
noncomputable def lastOf (ys : List D) (c : Nat) : Option Int := ys.foldl (fun r y => match y with | .tup [.str [c'], .int i] => if c' = c then some i else r | _ => r) none
noncomputable def Jd (prog : Program) (w : World) (B : Addr) (_ : Addr → Prop) (ys : List D) (h : Heap) : Prop := ∃ kvs, Heap.DictOf (strKind prog w) h B kvs ∧ kvs.length ≤ ys.length ∧ ∀ c i, lastOf ys c = some i → ∃ t, valueAt kvs (mkS [c]) = some (.int i t)
theorem valueAt_cons {K : Type} [DecidableEq K] (kv : K × Value) (r : List (K × Value)) (x : K) : valueAt (kv :: r) x = if kv.1 = x then some kv.2 else valueAt r x := by
  unfold valueAt
  rw [List.find?_cons]
  by_cases q : kv.1 = x <;> simp [q]
theorem valueAt_map {K : Type} [DecidableEq K] (kvs : List (K × Value)) (k : K) (v : Value) (x : K) : valueAt (kvs.map fun kv => if kv.1 = k then (kv.1, v) else kv) x = if x = k then (valueAt kvs x).map fun _ => v else valueAt kvs x := by
  induction kvs with
  | nil => simp [valueAt]
  | cons kv r ih =>
    rw [List.map_cons, valueAt_cons, valueAt_cons, ih]
    by_cases h1 : kv.1 = k
    · by_cases h2 : kv.1 = x
      · have : x = k := h2 ▸ h1
        simp [h1, h2, this]
      · have h3 : k ≠ x := h1 ▸ h2
        by_cases h4 : x = k
        · exact absurd h4.symm h3
        · simp [h1, h3, h4]
    · by_cases h2 : kv.1 = x
      · have : x ≠ k := h2 ▸ h1
        simp [h1, h2, this]
      · simp [h1, h2]
theorem valueAt_append {K : Type} [DecidableEq K] (kvs : List (K × Value)) (k : K) (v : Value) (x : K) : valueAt (kvs ++ [(k, v)]) x = (valueAt kvs x).or (if k = x then some v else none) := by
  induction kvs with
  | nil => rw [List.nil_append, valueAt_cons]; simp [valueAt]
  | cons kv r ih =>
    rw [List.cons_append, valueAt_cons, valueAt_cons, ih]
    split <;> simp
theorem valueAt_any {K : Type} [DecidableEq K] (kvs : List (K × Value)) (k : K) : (valueAt kvs k).isSome = kvs.any fun kv => decide (kv.1 = k) := by
  induction kvs with
  | nil => rfl
  | cons kv r ih =>
    rw [valueAt_cons, List.any_cons, ← ih]
    by_cases q : kv.1 = k <;> simp [q]
theorem valueAt_stored {K : Type} [DecidableEq K] (kvs : List (K × Value)) (k : K) (v : Value) (x : K) : valueAt (stored kvs k v) x = if x = k then some v else valueAt kvs x := by
  unfold stored
  split
  · rename_i h
    rw [valueAt_map]
    rw [← valueAt_any] at h
    by_cases q : x = k
    · subst q
      obtain ⟨a, ha⟩ := Option.isSome_iff_exists.mp h
      simp [ha]
    · simp [q]
  · rename_i h
    rw [valueAt_append]
    rw [← valueAt_any] at h
    by_cases q : x = k
    · subst q
      have : valueAt kvs x = none := by simpa using h
      simp [this]
    · have q' : k ≠ x := fun z => q z.symm
      simp [q, q']
theorem lastOf_snoc (ys : List D) (c' : Nat) (i : Int) (c : Nat) : lastOf (ys ++ [.tup [.str [c'], .int i]]) c = if c' = c then some i else lastOf ys c := by
  unfold lastOf
  rw [List.foldl_append]; rfl
theorem StrDict.nof {w : World} {o : Obj} {f : Str → Option Value} (x : StrDict w o f) : o.isFreed = false ∧ ∀ vs, o.data ≠ .fields vs := by
  obtain ⟨es, ep, _, h2, _⟩ := x
  obtain ⟨c, d, dt, sl⟩ := o
  obtain rfl : dt = .dict es ep := h2
  exact ⟨rfl, fun vs q => by cases q⟩
variable {kx vx target iter : Expr} {scope : Scope} {pos : Pos} {ds out : List D} {ρc : Rho}
theorem St.atBd {B : Addr} (K : CF F B) {s : Shared} {h' : Heap} {tk : Nat} (hs : St C F ρ s) (hsb : Heap.SameBut B s.heap h') (hl : ∃ o, h'.get? B = some o) (hc : ∀ v, ¬ s.heap.IsCell B v) : St C F ρ { s with heap := h', toks := tk } := hs.atB K hsb hl hc
theorem Jd.emit {prog : Program} {A : Around} {N : Nat} (hN : N ≤ 1000) (hA : Rm k A) {B : Addr} {F : Fn} {ρ : Rho} {y : D} {s : Shared} {ys : List D} (hn : (ys ++ [y]).length ≤ N) (K : CF F B) {c : Nat} {i : Int} (hy : y = .tup [.str [c], .int i]) (hk : EV C k F ρ kx (.str [c])) (hv : EV C k F ρ vx (.int i)) (hs : St C F ρ s) (j : Jd prog C.w B F.Mu ys s.heap) :
    wpAny (model prog C.w) A (do
        let kv ← eval kx F.env
        let vv ← holding [kv] (eval vx F.env)
        standAt { kx.pos with endLine := vx.pos.endLine, endCol := vx.pos.endCol }
        holding [kv, vv] (dictSet B kv vv)) (fun _ s' => St C F ρ s' ∧ Jd prog C.w B F.Mu (ys ++ [y]) s'.heap) NoE s := by
  subst hy
  refine wpAny_bind (hk.run _ _ _ _ _ hA hs fun v s₁ y₁ r => ?_)
  obtain ⟨t1, rfl⟩ := r.str_i
  have hs₁ := hs.step y₁ K.fok.nt
  refine wpAny_bind (wpAny_holding (hv.run _ _ _ _ _ hA hs₁ fun v s₂ y₂ r2 => ?_))
  obtain ⟨t2, rfl⟩ := r2.int_i
  have hs₂ := hs₁.step y₂ K.fok.nt
  obtain ⟨kvs, ⟨o, es, ep, e, r1, hdat, r2', r3, r4⟩, hlen, hl⟩ := j
  have e₂ : s₂.heap.get? B = some o := (y₁.trans y₂).keep B o K.nt e
  rw [List.length_append, List.length_singleton] at hn
  refine wpAny_bind (wpAny_standAt (wpAny_holding (wpAny_dictSet_pairs (strKind_is prog C.w _ t1) (kvs := kvs) ⟨o, es, ep, e₂, r1, hdat, r2', r3, r4⟩ (fun h' hm' hsb => ?_) (by rw [sizeLine_eq]; omega))))
  have hl' : ∃ o, h'.get? B = some o := let ⟨o, _, _, e, _⟩ := hm'; ⟨o, e⟩
  refine ⟨hs₂.atB K hsb hl' (fun v ⟨o2, e3, e4⟩ => ?_), _, hm', ?_, fun c' i' hc => ?_⟩
  · rw [e₂] at e3; cases e3
    rw [hdat] at e4; cases e4
  · have := stored_length_le kvs (mkS [c]) (Value.int i t2)
    rw [List.length_append, List.length_singleton]; omega
  · rw [lastOf_snoc] at hc
    rw [valueAt_stored]
    by_cases q : c = c'
    · subst q
      rw [if_pos rfl] at hc; cases hc
      exact ⟨t2, by rw [if_pos rfl]⟩
    · rw [if_neg q] at hc
      have : mkS [c'] ≠ mkS [c] := fun z => q (by have := congrArg (fun p : Str => p.cps.toList) z; simpa using this.symm)
      rw [if_neg this]
      exact hl c' i' hc
theorem StrDict.ofPairs {prog : Program} {w : World} {h : Heap} {B : Addr} {kvs : List (Str × Value)} (x : Heap.DictOf (strKind prog w) h B kvs) : ∃ o, h.get? B = some o ∧ StrDict w o (valueAt kvs) := StrDict.of x.mapOf
theorem Jd.fr {prog : Program} {w : World} {B : Addr} {Mu Mu' : Addr → Prop} {ys : List D} {h h' : Heap} (j : Jd prog w B Mu ys h) (hb : h'.get? B = h.get? B) : Jd prog w B Mu' ys h' := let ⟨kvs, ⟨o, es, ep, e, r⟩, l, f⟩ := j; ⟨kvs, ⟨o, es, ep, hb.trans e, r⟩, l, f⟩
noncomputable def dictEm (kx vx : Expr) : Value → Env → Sem Unit := fun acc env => match acc with
  | .ref d => do
        let kv ← eval kx env
        let vv ← holding [kv] (eval vx env)
        standAt { kx.pos with endLine := vx.pos.endLine, endCol := vx.pos.endCol }
        holding [kv, vv] (dictSet d kv vv)
  | _ => pure ()
theorem XS.asgD {prog : Program} {A : Around} {Q : Flow → Shared → Prop} {E : Value → Shared → Prop} {rest : List Stmt} {y : Str} {cy : Addr} {py spos : Pos} {ifs : List Expr} (H : FOK F) (hA : Rm k A) (K : CellOK F y cy) (hsrc : SrcE C k F ρ iter target ds) (hsee : Sees F scope ρ ρc) (hN : out.length ≤ 1000)
    (hL : ∀ F₂, InComp F F₂ scope → CL C k (fun F ρ y => ∃ c i, y = .tup [.str [c], .int i] ∧ EV C k F ρ kx (.str [c]) ∧ EV C k F ρ vx (.int i)) F₂ ρc target ifs [] ds out) (hx : ∀ p ∈ ρ, p.1 ≠ y)
    (h : ∀ a o f, StrDict C.w o f → (∀ c i, lastOf out c = some i → ∃ t, f (mkS [c]) = some (.int i t)) → XS prog C A F ((y, .obj a [(a, o)]) :: ρ) rest Q E)
    (hsw : swapsWith (.DictComp kx vx [⟨target, iter, ifs, 0⟩] scope pos) (some (.Name y py)) spos.line F.env = pure false) (hfs : ∀ x, foldedSetIterable iter F.env x = pure x := by intro _; rfl) :
    XS prog C A F ρ (.Assign [.Name y py] (.DictComp kx vx [⟨target, iter, ifs, 0⟩] scope pos) spos :: rest) Q E := by
  intro s hs
  refine wpAny_execs_cons (wpAny_Assign_Name ?_ hsw)
  rw [arm_eval_DictComp]
  refine comp_run 1000 H (obj := { cls := .type "dict", dict := none, data := .dict #[] }) (J := fun B Mu ys h => Jd prog C.w B Mu ys h) (P := fun F ρ y => ∃ c i, y = .tup [.str [c], .int i] ∧ EV C k F ρ kx (.str [c]) ∧ EV C k F ρ vx (.int i)) (newAcc := newDict) hA hs hsrc hsee rfl hfs (dictEm kx vx) (fun B env => .dict kx vx scope _ B rfl)
    (fun s Q E h => wpAny_newObj_type h (by size_fits)) rfl (fun vs q t e => by cases e) (fun B Mu Mu' ys h h' j hv hb => j.fr hb) (fun B Mu h e => ⟨[], ⟨_, #[], 0, e, ⟨rfl, rfl, rfl⟩, rfl, fun _ he => by simp at he, Pairs.nil, List.nodup_nil⟩, Nat.zero_le _, fun c i hc => by cases hc⟩) (fun B F₂ ρ y s ys hn K ⟨c, i, e1, e2, e3⟩ hs j => Jd.emit (Nat.le_refl _) hA hn K e1 e2 e3 hs j) hN hL ?_
  intro B Cx s' m nB nC hBC y₁ ns ntC hcd j
  refine ⟨m, ns, fun h' hsb => ?_⟩
  have hB : ¬ F.Mu B := fun hm => by obtain ⟨o, e⟩ := hs.ok.live B hm; rw [nB] at e; cases e
  have st := Step.upd (tk := s'.toks) nC hs.ok.tabs y₁ hsb ntC hcd
  obtain ⟨kvs, hd, _, hl⟩ := j
  obtain ⟨o, e, hsd⟩ := StrDict.ofPairs hd
  have e' : h'.get? B = some o := (hsb.2 B hBC).trans e
  exact St.storeC H K (hs.step st H.nt) (d := .obj B [(B, o)]) (.obj fun p hp => by rw [List.mem_singleton.mp hp]; exact ⟨hB, e'⟩) hx fun s2 h2 => h B o _ hsd hl s2 h2
end
theorem CN.str {n : Nat} {l : List Nat} (h : ∀ c ∈ l, c < 0x110000) : CN n (.str l) := ⟨rfl, by
  show PyData.canLay0 (.str (mkS l)) = true
  rw [PyData.canLay0]
  show (mkS l).cps.all (· < 0x110000) = true
  rw [Array.all_eq_true_iff_forall_mem]
  intro c hc
  exact decide_eq_true (h c (by simpa using hc)), Nat.zero_le _⟩
section
variable {C : Base} {k : Nat} {F : Fn} {ρ : Rho} {prog : Program} {A : Around}
theorem St.stepF (H : FOK F) {s s' : Shared} {X : Addr → Prop} (hs : St C F ρ s) (hX : ∀ a, X a → a = F.env.locals) (y : StepX X s s') (hn : ∀ a m, s.heap.Ns a m → s'.heap.Ns a m) : St C F ρ s' := by
  obtain ⟨m, nn, hh⟩ := hs.fr
  obtain ⟨oL, _, _, eL, hdL, _⟩ := id nn
  have dl : ∀ o, s.heap.get? F.env.locals = some o → plainO o = false := fun o e => by
    rw [eL] at e; cases e
    unfold plainO; rw [hdL]
  have kp : ∀ a o, ¬ isTab a → a ≠ F.env.locals → s.heap.get? a = some o → s'.heap.get? a = some o := fun a o nt q e => y.keep a o nt (fun x => q (hX a x)) e
  have cl : ∀ c v, s.heap.IsCell c v → s'.heap.IsCell c v := fun c v x => by
    have nt := notTab_cell hs.ok.tabs x
    have ne := ns_ne_cell nn x
    obtain ⟨o, e2, hd⟩ := x
    exact ⟨o, kp c o nt ne e2, hd⟩
  have vu : ∀ a o, vis F.Mu s.heap a o → vis F.Mu s'.heap a o := fun a o v => ⟨v.1, kp a o (fun t => v.1 (hs.ok.tab a t)) (fun q => v.1 (q ▸ H.mu)) v.2⟩
  refine ⟨⟨fun a o q => ?_, hs.ok.hb, y.tabs.1, y.gens.trans hs.ok.gens, y.os.trans hs.ok.os, fun a ha => ?_, hs.ok.tab, fun P l1 l2 c' hP q => ?_⟩, fun a o q => kp a o (H.nt a o q) (fun z => H.kp o (z ▸ q)) (hs.kept a o q), hs.since.trans ⟨y.live, y.tabs.2⟩, fun x c q => let ⟨v, hv⟩ := hs.cells x c q; ⟨v, cl c v hv⟩, m, hn _ _ nn, fun p hp => ?_⟩
  · exact kp a o (fun t => hs.ok.hb a o q (hs.ok.tab a t)) (fun z => hs.ok.hb a o q (z ▸ H.mu)) (hs.ok.keep a o q)
  · obtain ⟨o, q⟩ := hs.ok.live a ha; exact y.live a o q
  · rcases y.tabs.2 P hP with q2 | ⟨m1, m2, c₂, nt, f, q2⟩
    · exact hs.ok.code P l1 l2 c' hP (q2 ▸ q)
    · rw [q2] at q
      have : c₂ = c' := by simp [tabObj] at q; exact q.2.2
      subst this
      intro hm
      obtain ⟨o, q3⟩ := hs.ok.live _ hm
      rw [q3] at f; cases f
  · refine (hh p hp).mono (F := F) rfl vu (fun a ob w pl e => ⟨w, kp a ob (fun t => ?_) (fun q => ?_) e⟩) fun c v _ e => cl c _ e
    · obtain ⟨vs, q⟩ := tab_fields hs.ok.tabs t
      rw [e] at q; cases q; cases pl
    · have := dl ob (q ▸ e); rw [this] at pl; cases pl
theorem vis_stepF (H : FOK F) {s s' : Shared} {X : Addr → Prop} (hs : St C F ρ s) (hX : ∀ a, X a → a = F.env.locals) (y : StepX X s s') : ∀ a o, vis F.Mu s.heap a o → vis F.Mu s'.heap a o := fun a o v => ⟨v.1, y.keep a o (fun t => v.1 (hs.ok.tab a t)) (fun q => v.1 (hX a q ▸ H.mu)) v.2⟩
noncomputable def EW (prog : Program) (C : Base) (A : Around) (F : Fn) (ρ : Rho) (e : Expr) (d : D) : Prop := ∀ (s : Shared) (Q : Value → Shared → Prop) (E : Value → Shared → Prop), St C F ρ s → (∀ v s', St C F ρ s' → (∀ a o, vis F.Mu s.heap a o → vis F.Mu s'.heap a o) → Rep (vis F.Mu s'.heap) v d → Q v s') → wpAny (model prog C.w) A (eval e F.env) Q E s
theorem EW.of (H : FOK F) (hA : Rm k A) {e : Expr} {d : D} (h : EV C k F ρ e d) : EW prog C A F ρ e d := fun s Q E hs hQ => h.run _ _ _ _ _ hA hs fun v s' y r => hQ v s' (hs.step y H.nt) (hs.ok.vis y) r
theorem EW.syms (H : FOK F) (G : PG C) {e : Expr} {p pos : Pos} {number : Int} {out : List Int} (hA : Rm 20 A) (hfr : A.frames = some [F.env]) (hF : F.env.frame = some F.env.locals) (hx : F.env.kindOf "_law_symbols" = some .globalImplicit) (he : EV C 20 F ρ e (.int number))
    (hn0 : 0 ≤ number) (hbits : Builtin.Int.intBits number ≤ 2 ^ 12 - 2 ^ 8) (hR : Runs (figs 8 (i2dLen number 8) number) out) (hout : out.length < 400)
    (hs : starEach [e] F.env = (false, eval e F.env) :: starEach [] F.env := by rfl) : EW prog C A F ρ (.Call (.Name "_law_symbols" p) [e] [] pos) (.list (out.map .int)) := by
  intro s Q E hst hQ
  obtain ⟨pm, hfd⟩ := G.fd (101, 69, 100) (by decide)
  obtain ⟨o, ho, hdat, _⟩ := C.fn _ _ hfd
  have hfo : framesOf [F.env] = [F.env.locals] := by unfold framesOf; rw [List.filterMap_cons, hF]; rfl
  have hX : ∀ a, a ∈ framesOf [F.env] → a = F.env.locals := fun a h => by rw [hfo] at h; exact List.mem_singleton.mp h
  refine wpAny_Call_NameR (Calls.Name_function_global H.kind hx (Calls.loadGlobal_global (hst.mg H) (G.mg ("_law_symbols", 101) (by decide)) ?_) (by decide +kernel))
  refine callWith_def hdat ((EVs.cons H he EVs.nil hs).run _ _ _ _ _ _ hA hst fun vs s1 y1 r1 => ?_) hs
  have hs1 := hst.step y1 H.nt
  obtain ⟨v, rfl, r2⟩ := r1.one
  obtain ⟨t, rfl⟩ := r2.int_i
  refine ⟨hs1.ok.keep _ _ ho, syms_call G hA hfr hs1.ok (fun env he => ?_) (fun a ha => hX a ha ▸ H.mu) hn0 hbits hR hout fun s' v st hn rv => ?_⟩
  · rw [List.mem_singleton.mp he]
    obtain ⟨m, nn, _⟩ := hs1.fr
    exact ⟨by rw [H.kind]; decide, _, m, hF, nn⟩
  · exact hQ v s' (hs1.stepF H hX st hn) (fun a o v => vis_stepF H hs1 hX st a o (hst.ok.vis y1 a o v)) rv
variable {Q : Flow → Shared → Prop} {E : Value → Shared → Prop} {rest : List Stmt}
theorem XS.asgE {x : Str} {px pos : Pos} {e : Expr} {d : D} (H : FOK F) (he : EW prog C A F ρ e d) (hl : F.env.kindOf x = some .local) (hx : ∀ p ∈ ρ, p.1 ≠ x)
    (h : XS prog C A F ((x, d) :: ρ) rest Q E) (hsw : swapsWith e (some (.Name x px)) pos.line F.env = pure false := by rfl) : XS prog C A F ρ (.Assign [.Name x px] e pos :: rest) Q E := by
  intro s hs
  refine wpAny_execs_cons (wpAny_Assign_Name (he _ _ _ hs fun v s' hs' _ r => ?_) hsw)
  exact St.store H hs' hl r hx fun s2 h2 => h s2 h2
theorem XS.ifE {a b c t : Expr} {body : List Stmt} {p1 p2 p3 pos : Pos} {d1 d2 : D} (H : FOK F) (hA : Rm k A) (ha : EV C k F ρ a d1) (hb : EW prog C A F ρ b d2) (hc : EV C k F ρ c (.list [d1, d2])) (hcmp : Cmp (.list [d1, d2])) (ht : TT C k F ρ t false)
    (h : XS prog C A F ρ rest Q E) (he : starEach [a, b] F.env = (false, eval a F.env) :: starEach [b] F.env := by rfl) (he2 : starEach [b] F.env = (false, eval b F.env) :: starEach [] F.env := by rfl)
    (hm : behindInMarks .NotEq c = false := by with_unfolding_all rfl) : XS prog C A F ρ (.If (.BoolOp .Or [.Compare (.List [a, b] p1) [.NotEq] [c] p2, t] p3) body [] pos :: rest) Q E := by
  intro s hs
  refine wpAny_execs_cons (wpAny_If ?_)
  show wpAny _ _ (do match BoolOp.Or, ← isTrue (.Compare (.List [a, b] p1) [.NotEq] [c] p2) F.env (eval (.Compare (.List [a, b] p1) [.NotEq] [c] p2) F.env) with
    | .And, false => pure false
    | .Or, true => pure true
    | _, _ => allTrue .Or [t] F.env) _ _ _
  refine wpAny_bind (wpAny_isTrue_Compare1 (List_ (spliced_more (ha.run _ _ _ _ _ hA hs fun v1 s1 y1 r1 => spliced_more (hb _ _ _ (hs.step y1 H.nt) fun v2 s2 hs2 vu r2 => spliced_none ?_) he2) he)) hm)
  have ok2 := hs2.ok
  have r1' := r1.mono vu
  refine wpAny_newObj_type ?_ (by show [v1, v2].toArray.size ≤ sizeLine; rw [sizeLine_eq]; exact Nat.le_of_ble_eq_true rfl)
  have st : Step s2 { s2 with heap := s2.heap.push (listO [v1, v2] 0) } := Step.push'
  have hs3 := hs2.step st H.nt
  have rl : Rep (vis F.Mu (s2.heap.push (listO [v1, v2] 0))) (.ref s2.heap.objs.size) (.list [d1, d2]) := .list (n := 0) ⟨fun hm => Nat.lt_irrefl _ (ok2.lt _ hm), Heap.get?_push_size _ rfl⟩ ((RepL.cons r1' (.cons r2 .nil)).mono (ok2.vis st))
  refine hc.run _ _ _ _ _ hA hs3 fun v4 s4 y4 r4 => ?_
  have hs4 := hs3.step y4 H.nt
  refine (T2.ner hcmp).run _ _ _ _ _ _ _ hA hs4.ok (rl.mono (hs3.ok.vis y4)) r4 fun v s5 y5 r5 => ?_
  obtain rfl := r5.bool_i
  have hs5 := hs4.step y5 H.nt
  refine wpAny_truthy_bool ?_
  show wpAny _ _ (do match BoolOp.Or, ← isTrue t F.env (eval t F.env) with
      | .And, false => pure false
      | .Or, true => pure true
      | _, _ => allTrue .Or [] F.env) _ _ _
  refine wpAny_bind (ht.run _ _ _ _ _ hA hs5 fun s6 y6 => ?_)
  refine wpAny_pure (wpAny_execs_nil ?_)
  exact h _ (hs5.step y6 H.nt)
end
section
variable {C : Base} {k : Nat} {F : Fn} {ρ : Rho} {Mu : Addr → Prop}
theorem enumL_int (l : List Int) : enumL (l.map .int) = l.zipIdx.map fun p => .tup [.int (p.2 : Nat), .int p.1] := by
  unfold enumL
  rw [List.zipIdx_map, List.map_map]; rfl
theorem T2.muln {a b : Nat} (ha : a < 2 ^ 20) (hb : b < 2 ^ 20) : T2 C k Mu (.int a) (.int b) (binaryOp .Mult) (.int (a * b : Nat)) := by
  have := T2.mulz (C := C) (k := k) (Mu := Mu) (m := 20) (n := 20) (a := (a : Int)) (b := (b : Int)) (.lt (by omega) (by omega)) (.lt (by omega) (by omega)) rfl
  rw [← Int.natCast_mul] at this
  exact this
theorem EV.initl (H : FOK F) {e hi : Expr} {p pos : Pos} {ds : List D} (h1 : EV C k F ρ e (.list ds)) (hl : EV C k F ρ hi (.int (-1))) (hn : ds.length ≤ 2 ^ 24) : EV C k F ρ (.Subscript e (.Slice none (some hi) none p) pos) (.list ds.dropLast) :=
  (EV.slicel (lo := none) (hi := some hi) (st := none) (l := none) (u := some (-1)) (t := none) H h1 trivial hl trivial (by decide) hn (fun o i => ⟨_, rfl⟩)).toL picks_init
theorem T2.lastl {l : List D} {d : D} (hl : l.length < 2 ^ 60) : T2 C k Mu (.list (l ++ [d])) (.int (-1)) getItem d := by
  refine T2.idxlN (by decide) (by decide) (by rw [List.length_append, List.length_singleton]; omega) ?_
  have e : (-1 + ((l ++ [d]).length : Int)).toNat = l.length := by rw [List.length_append, List.length_singleton]; omega
  rw [e, List.getElem?_append_right (Nat.le_refl _), Nat.sub_self]; rfl
noncomputable abbrev lawR (text : List Nat) (h s t k w x : Nat) (da : Addr) (dob : Obj) (steps octs : List Int) (proof : Int) : Rho := [("proof", .int proof), ("octets", .list (octs.map .int)), ("steps", .list (steps.map .int)), ("text", .str text), ("x", .int x), ("k", .int k), ("w", .int w), ("head", .str [h]), ("stroke", .str [s]), ("knot", .str [t]), ("codes", .obj da [(da, dob)])]
structure LD (text : List Nat) (h s t k w x : Nat) (cd : Nat → Int) (ps : List (Int × Int)) (octs : List Int) (proof : Int) (T : Nat → List Nat) (N : Nat → Int) : Prop where
  hw : w ≤ 9
  hw0 : 0 < w
  hk : k ≤ 8
  hx : x < 2 ^ 26
  th : (h, cd h) ∈ tokList
  ts : (s, cd s) ∈ tokList
  tt : (t, cd t) ∈ tokList
  sgn : ∀ c ∈ text, c < 128
  szT : Sz 400 text
  p0 : 0 ≤ proof
  pb : Builtin.Int.intBits proof ≤ 2 ^ 12 - 2 ^ 8
  r1 : Runs (figs 8 (i2dLen proof 8) proof) (unpair ps ++ [64 * (x : Int) + k])
  r2 : Runs (figs 8 (i2dLen (proof.fmod (256 ^ (octs.length - 1))) 8) (proof.fmod (256 ^ (octs.length - 1)))) (unpair ps)
  lps : ps.length < 195
  loc : 0 < octs.length ∧ octs.length < 500
  hc0 : 0 ≤ cd h ∧ cd h < 2 ^ w
  hc1 : 0 ≤ cd s ∧ cd s < 2 ^ w
  hc2 : 0 ≤ cd t ∧ cd t < 2 ^ w
  bc : ∀ c ∈ text, Bz 6 (cd c)
  bc2 : Bz 6 (cd t)
  hT0 : T 0 = [h, s]
  hN0 : N 0 = cd h * 2 ^ w + cd s
  hsz : ∀ i, i ≤ ps.length → Sz 400 (T i)
  hP : ∀ i p, ps[i]? = some p → Nonempty (PD w k h s t (cd h) (cd s) (cd t) (T i) (N i) p.1 p.2 (T (i + 1)) (N (i + 1)))
  hNe : 0 ≤ N ps.length
  bNe : Bz 3800 (N ps.length)
  eT : T ps.length = text
  eN : N ps.length = ((text.reverse.map cd).zipIdx.map fun p => p.1 * 2 ^ (w * p.2)).sum
  eF : figs w (i2dLen (N ps.length) w) (N ps.length) = text.reverse.map cd
variable {F₀ : Fn} {prog : Program} {A : Around}
theorem law_d (G : PGD C) (S : Sub F₀ F) (hsc : F.env.scope = sc (stmtAt 73)) (hcs : ∀ x, (sc (stmtAt 73)).names.lookup x = some .cell → ∃ c, CellOK F x c) (hA : Rm 22 A) (hfr : A.frames = some [F.env]) (hF : F.env.frame = some F.env.locals)
    {text : List Nat} {h s t k w x : Nat} {cd : Nat → Int} {ps : List (Int × Int)} {octs : List Int} {proof : Int} {T : Nat → List Nat} {N : Nat → Int} (L : LD text h s t k w x cd ps octs proof T N) {da : Addr} {dob : Obj} {f : Str → Option Value} (hd : StrDict C.w dob f) (hf : ∀ c ∈ text, ∃ t, f (mkS [c]) = some (.int (cd c) t)) :
    XS prog C A F (lawR text h s t k w x da dob (unpair ps ++ [64 * (x : Int) + k]) octs proof) ((bd (stmtAt 73)).drop 18) (Ret C F₀ (.bool true)) NoE := by
  obtain ⟨hw, hw0, hk, hx, th, ts, tt, sgn, szT, p0, pb, r1, r2, lps, loc, hc0, hc1, hc2, bc, bc2, hT0, hN0, hsz, hP, hNe, bNe, eT, eN, eF⟩ := L
  have G' := G.toPG
  have H := S.fok
  have lu : (unpair ps).length = 2 * ps.length := unpair_len ps
  have lst : (unpair ps ++ [64 * (x : Int) + k]).length < 400 := by rw [List.length_append, lu, List.length_singleton]; omega
  have eM : (unpair ps ++ [64 * (x : Int) + k]).map D.int = (unpair ps).map .int ++ [.int (64 * (x : Int) + k)] := by rw [List.map_append]; rfl
  have eD : ((unpair ps ++ [64 * (x : Int) + k]).map D.int).dropLast = (unpair ps).map .int := by rw [eM, List.dropLast_concat]
  have lM : ((unpair ps ++ [64 * (x : Int) + k]).map D.int).length ≤ 2 ^ 24 := by rw [List.length_map]; omega
  have hfm : ((64 * (x : Int) + k)).fdiv 64 = x ∧ ((64 * (x : Int) + k)).fmod 64 = k := by
    rw [Int.fdiv_eq_ediv_of_nonneg _ (by decide), Int.fmod_eq_emod_of_nonneg _ (by decide)]; omega
  have b64 : Bz 3800 (64 * (x : Int) + k) := Bz.mono (m := 40) (.lt (by omega) (by omega)) (by decide)
  have pm0 : (0 : Int) < 256 ^ (octs.length - 1) := Int.pow_pos (by decide)
  have hm : proof.fmod (256 ^ (octs.length - 1)) = proof % 256 ^ (octs.length - 1) := Int.fmod_eq_emod_of_nonneg _ (Int.le_of_lt pm0)
  have q0 : 0 ≤ proof.fmod (256 ^ (octs.length - 1)) := by rw [hm]; exact Int.emod_nonneg _ (Int.ne_of_gt pm0)
  have qb : Builtin.Int.intBits (proof.fmod (256 ^ (octs.length - 1))) ≤ 2 ^ 12 - 2 ^ 8 := by
    have h1 : proof.fmod (256 ^ (octs.length - 1)) ≤ proof := by
      rw [hm, Int.emod_def]
      have := Int.mul_nonneg (Int.le_of_lt pm0) (Int.ediv_nonneg p0 (Int.le_of_lt pm0))
      omega
    refine intBits_le_iff.mpr (Nat.lt_of_le_of_lt ?_ (intBits_le_iff.mp pb))
    omega
  refine XS.asgE H (EW.syms H G' (hA.mono) hfr hF (by walk_at "kd") (by walk_at "ev") p0 pb r1 lst) (by walk_at "kd") (by walk_at "ne") ?_
  have cI : ∀ l : List Int, CN 1 (.list (l.map .int)) := fun l => CN.list (CN.map fun i _ => CN.int i)
  refine XS.ifE (k := 22) H hA (by walk_at "ev") (EW.syms H G' (hA.mono) hfr hF (by walk_at "kd") (EV.bin H (by walk_at "ev") (EV.bin H (by walk_at "ev") (EV.bin H (EV.callB H (by walk_at "kd") (by walk_at "mem") (by walk_at "evs") (TL.lenl (by rw [List.length_map]; omega))) (EV.int 1) (d := .int ((octs.length - 1 : Nat) : Int)) ?e1) (d := .int (256 ^ (octs.length - 1))) ?e2) (T2.fmod (Int.ne_of_gt pm0))) q0 qb r2 (by omega))
    (EV.lst H (EVs.cons H (by walk_at "ev") (EVs.cons H ((EV.initl H (by walk_at "ev") (by walk_at "ev") lM).toL eD) EVs.nil)) (Nat.le_of_ble_eq_true rfl)) ((CN.list (n := 1) (CN.cons (cI _) (CN.cons (cI _) CN.nil))).cmp)
    (TT.cmp H (idm G' H (by walk_at "kd") (by decide) (by decide) (Bz.mono (m := 7) (.lt (by decide) (by decide)) (by decide)) b64 (EVs.cons H (EV.item (T := "list") H ((EV.name H (by walk_at "mem")).toL eM) (by walk_at "ev") (T2.lastl (by rw [List.length_map]; omega)) rfl) (EVs.cons H (by walk_at "ev") EVs.nil)) hfm) (by walk_at "ev") (T2.ner ((CN.tup (n := 0) (CN.cons (CN.int _) (CN.cons (CN.int _) CN.nil))).cmp))) ?_
  case e1 =>
    rw [List.length_map]
    have : (((octs.length - 1 : Nat)) : Int) = (octs.length : Int) - 1 := by omega
    rw [this]; exact T2.sub
  case e2 =>
    have := T2.pow (C := C) (k := 20) (Mu := F.Mu) (a := 256) (b := ((octs.length - 1 : Nat) : Int)) (by omega) (by
      have : Builtin.Int.intBits 256 = 9 := by decide +kernel
      rw [this]; omega)
    rw [Int.toNat_natCast] at this
    exact this
  refine XS.asgC (out := (text.reverse.map cd).map .int) (ds := text.reverse.map fun c => D.str [c]) H hA (SrcE.revS H (by walk_at "kd") (by have := szT.out; omega) (by walk_at "ev")) (Sees.of (ρc := [("codes", .obj da [(da, dob)])]) hsc hcs (by decide +kernel) (by decide +kernel) (by kernel_rfl) (by walk_at "sub")) (by have := szT.out; simp; omega) (fun F₂ IC => by
      rw [List.map_map]
      exact CL.all (fun c => .str [c]) text.reverse (fun c => .int (cd c)) IC (by decide +kernel) (by kernel_rfl) fun c hc F₃ IC₃ H₃ => EV.dictS H₃ (by walk_at "mem") hd (hf c (List.mem_reverse.mp hc)) (by walk_at "ev")) (by walk_at "kd") (by walk_at "ne") ?_ (swC hsc fun L g c q f cd fr b => by kernel_rfl)
  generalize hfg : text.reverse.map cd = fg at eN eF
  have lfg : fg.length ≤ 400 := by rw [← hfg]; have := szT.out; simp; omega
  have bfg : ∀ i ∈ fg, Bz 6 i := fun i hi => by
    rw [← hfg] at hi
    obtain ⟨c, hc, rfl⟩ := List.mem_map.mp hi
    exact bc c (List.mem_reverse.mp hc)
  have cT : CN 1 (.str text) := CN.str fun c hc => Nat.lt_trans (sgn c hc) (by decide)
  refine XS.ret H hA (EV.cmp H (EV.toD (EV.callF H (by walk_at "kd") (G.mg ("_law_proved", 118) (by decide)) (G.fd (118, 72, 117) (by decide)).choose_spec (EVs.cons H ((EV.initl H (by walk_at "ev") (by walk_at "ev") lM).toL eD) (by walk_at "evs")) (proved_spec G (T := T) (N := N) hw hk th ts tt hc0 hc1 hc2 bc2 hT0 hN0 hsz hP (by omega) hw0 hNe bNe)) (by rw [eT, eN, ← eN, eF] : _ = D.list [.str text, .int (N ps.length), .list (fg.map .int)]))
    (EV.lst H (EVs.cons H (by walk_at "ev") (EVs.cons H (EV.toI (EV.callB H (by walk_at "kd") (by walk_at "mem") (EVs.cons H
      (EV.toL (b := (fg.zipIdx.map fun p => p.1 * 2 ^ (w * p.2)).map .int) (EV.lcomp H (SrcE.toL (SrcE.enum H (by walk_at "kd") (by walk_at "ev")) (enumL_int fg)) (Sees.of (ρc := [("w", .int w)]) hsc hcs (by decide +kernel) (by decide +kernel) (by kernel_rfl) (by walk_at "sub")) (by simp; omega)
        fun F₂ IC => CL.allp (fun p => .int (p.2 : Nat)) (fun p => .int p.1) fg.zipIdx (fun p => .int (p.1 * 2 ^ (w * p.2))) IC (by decide +kernel) (by decide +kernel) (by decide +kernel) (by kernel_rfl) (by kernel_rfl) fun p hp F₃ IC₃ H₃ => ?g) (by rw [List.map_map]; rfl)) EVs.nil) TL.sum) eN.symm) (EVs.cons H (by walk_at "ev") EVs.nil))) (Nat.le_of_ble_eq_true rfl)) (T2.eqr ((CN.list (n := 1) (CN.cons cT (CN.cons (CN.int _) (CN.cons (cI _) CN.nil)))).cmp))) (Ret.up S)
  case g =>
    have hj : p.2 < fg.length := by have := List.mem_zipIdx hp; omega
    have hi : p.1 ∈ fg := by
      obtain ⟨_, _, e⟩ := List.mem_zipIdx hp
      rw [e]; exact List.getElem_mem _
    have hwj : w * p.2 ≤ 3600 := by have := Nat.mul_le_mul hw (Nat.le_trans (Nat.le_of_lt hj) lfg); omega
    exact EV.bin H₃ (by walk_at "ev") (EV.bin H₃ (by walk_at "ev") (EV.bin H₃ (by walk_at "ev") (by walk_at "ev") (T2.muln (by omega) (by omega))) (T2.pow2 (by omega))) (T2.mulz (m := 6) (n := 3602) (bfg _ hi) (.lt (Int.le_of_lt (Int.pow_pos (by decide))) (Int.pow_lt_pow_of_lt (by decide) (by omega))) rfl)
end
section
variable {C : Base} {k : Nat} {F : Fn} {ρ : Rho} {Mu : Addr → Prop} {prog : Program} {A : Around} {Q : Flow → Shared → Prop} {E : Value → Shared → Prop} {rest : List Stmt}
theorem XS.asgK {x : Str} {c : Addr} {px pos : Pos} {e : Expr} {d : D} (H : FOK F) (hA : Rm k A) (he : EV C k F ρ e d) (K : CellOK F x c) (hx : ∀ p ∈ ρ, p.1 ≠ x)
    (h : XS prog C A F ((x, d) :: ρ) rest Q E) (hsw : swapsWith e (some (.Name x px)) pos.line F.env = pure false := by rfl) : XS prog C A F ρ (.Assign [.Name x px] e pos :: rest) Q E := by
  intro s hs
  refine wpAny_execs_cons (wpAny_Assign_Name (he.run _ _ _ _ _ hA hs fun v s' y r => ?_) hsw)
  exact St.storeC H K (hs.step y H.nt) r hx fun s2 h2 => h s2 h2
theorem rng_nat (n : Nat) : rngL 0 1 n = (List.range n).map fun (j : Nat) => D.int (j : Int) := by
  unfold rngL
  exact List.map_congr_left fun i _ => congrArg D.int (by omega)
theorem T2.powk {a j : Nat} (ha : a < 2 ^ 10) (hj : j ≤ 4096) : T2 C k Mu (.int a) (.int j) (binaryOp .Pow) (.int ((a : Int) ^ j)) := by
  have := T2.pow (C := C) (k := k) (Mu := Mu) (a := (a : Int)) (b := (j : Int)) (by omega) (by
    have h1 : Builtin.Int.intBits (a : Int) ≤ 10 := bits_le (by omega) (by omega)
    have h2 := Nat.mul_le_mul h1 hj
    have h3 : ((Builtin.Int.intBits (a : Int) * j : Nat) : Int) ≤ 10 * 4096 := by exact_mod_cast h2
    rw [Int.natCast_mul] at h3
    omega)
  rw [Int.toNat_natCast] at this
  exact this
noncomputable def vl (one : Int) : Nat := (Builtin.Int.intBits one - 1) / 6 + 1
noncomputable def octJ (one : Int) : List Nat := (List.range (vl one)).map fun i => vl one - 1 - i
noncomputable def octV (one : Int) (j : Nat) : Int := (one.fdiv (64 ^ j)).fmod 64 + 64 * (if decide ((j : Int) > 0) then 1 else 0)
noncomputable def octsL (steps : List Int) : List Int := steps.flatMap fun one => (octJ one).map (octV one)
noncomputable def proofV (n3 : Int) (p : Int × Nat) : Int := (p.1 + 128 * (if (((p.2 : Nat) : Int) + n3).fmod 3 == 0 then 1 else 0)) * 256 ^ p.2
noncomputable def proofL (n3 : Int) (octs : List Int) : Int := (octs.zipIdx.map (proofV n3)).sum
theorem rng_oct (one : Int) : rngL ((vl one - 1 : Nat) : Int) (-1) (vl one) = (octJ one).map fun (j : Nat) => D.int (j : Int) := by
  unfold rngL octJ
  rw [List.map_map]
  refine List.map_congr_left fun i hi => congrArg D.int ?_
  rw [List.mem_range] at hi
  show ((vl one - 1 : Nat) : Int) + i * -1 = ((vl one - 1 - i : Nat) : Int)
  omega
theorem octV_lt (one : Int) (j : Nat) : 0 ≤ octV one j ∧ octV one j < 128 := by
  unfold octV
  rw [Int.fmod_eq_emod_of_nonneg _ (by decide)]
  split <;> omega
noncomputable def okM (n k : Nat) (j : Nat) : Bool := decide (((2 : Int) ^ j) ≥ (n : Int)) && (((2 : Int) ^ j - n).fmod k == 0)
noncomputable abbrev lawC (text : List Nat) (h s t k w x : Nat) (da : Addr) (dob : Obj) (nn : List Int) : Rho := [("text", .str text), ("x", .int x), ("k", .int k), ("w", .int w), ("head", .str [h]), ("stroke", .str [s]), ("knot", .str [t]), ("codes", .obj da [(da, dob)]), ("numbers", .list (nn.map .int))]
variable {F₀ : Fn}
theorem size_rng {a : Nat} : Builtin.Range.rangeSize (a : Int) (-1) (-1) = ((a + 1 : Nat) : Int) := by
  unfold Builtin.Range.rangeSize
  rw [if_neg (by decide), if_pos (by omega)]
  show ((a : Int) - -1 - 1) / 1 + 1 = _
  rw [Int.ediv_one]; omega
theorem small_rng {a : Nat} (h1 : a ≤ 2 ^ 30) : Builtin.Range.small a (-1) (-1) = true := by
  unfold Builtin.Range.small
  rw [size_rng, rng_fit (by omega) (by omega), rng_fit (by decide) (by decide), rng_fit (by omega) (by omega), if_neg (by decide), rng_fit (by decide) (by decide), Bool.or_true]
  rfl
theorem noPyB {a b : Int} (h : b.natAbs < 2 ^ 200) : Builtin.divisionGoesByPylong a b = false := by
  refine PyProof.noPylong_of_log2 ?_
  by_cases h0 : b.natAbs = 0
  · rw [h0]; decide
  · exact Nat.lt_trans ((Nat.log2_lt h0).mpr h) (by decide)
theorem vl_le {one : Int} (h : Bz 40 one) : vl one ≤ 7 := by
  have := h.out
  unfold vl; omega
theorem max_eq {b : Nat} : (if (b : Int) - 1 > 0 then (b : Int) - 1 else 0).fdiv 6 = ((b - 1) / 6 : Nat) := by
  rw [Int.fdiv_eq_ediv_of_nonneg _ (by decide)]
  split <;> omega
theorem law_c (G : PGD C) (S : Sub F₀ F) (hsc : F.env.scope = sc (stmtAt 73)) (hcs : ∀ x, (sc (stmtAt 73)).names.lookup x = some .cell → ∃ c, CellOK F x c) (hA : Rm 22 A) (hfr : A.frames = some [F.env]) (hF : F.env.frame = some F.env.locals)
    {text : List Nat} {h s t k w x m q : Nat} {cd : Nat → Int} {ps : List (Int × Int)} {n0 n1 n2 n3 : Int} {T : Nat → List Nat} {N : Nat → Int} (L : LD text h s t k w x cd ps (octsL (unpair ps ++ [64 * (x : Int) + k])) (proofL n3 (octsL (unpair ps ++ [64 * (x : Int) + k]))) T N) {da : Addr} {dob : Obj} {f : Str → Option Value} (hd : StrDict C.w dob f) (hf : ∀ c ∈ text, ∃ t, f (mkS [c]) = some (.int (cd c) t))
    (h0 : text ≠ []) (hk0 : 0 < k) (hm : ((List.range 12).filter (okM (text.count s + k * text.count t) k)) ≠ [] ∧ minI (((List.range 12).filter (okM (text.count s + k * text.count t) k)).map fun (j : Nat) => (j : Int)) = m) (hm12 : m ≤ 12) (hq : (2 : Int) ^ m - (text.count s + k * text.count t : Nat) = k * q) (hq12 : q ≤ 1024)
    (hst : stepsL text t (text.count s + k * text.count t) m q = unpair ps) (bst : ∀ i ∈ unpair ps ++ [64 * (x : Int) + k], Bz 40 i) :
    XS prog C A F (lawC text h s t k w x da dob [n0, n1, n2, n3]) ((bd (stmtAt 73)).drop 12) (Ret C F₀ (.bool true)) NoE := by
  have G' := G.toPG
  have H := S.fok
  obtain ⟨cn, Kn⟩ := hcs "n" (by decide +kernel)
  have szT := L.szT
  have hct : ∀ c, text.count c ≤ 400 := fun c => Nat.le_trans List.count_le_length szT.out
  have hk := L.hk
  have lps := L.lps
  have loc := L.loc
  have hx := L.hx
  refine XS.asgK (d := .int (text.count s + k * text.count t : Nat)) H hA (EV.bin H (EV.meth H (by walk_at "ev") GetM.count (by walk_at "evs") TL.countc) (EV.bin H (by walk_at "ev") (EV.meth H (by walk_at "ev") GetM.count (by walk_at "evs") TL.countc) (T2.muln (by omega) (by have := hct t; omega))) T2.addn) Kn (by walk_at "ne") ?_
  generalize hn : text.count s + k * text.count t = n at hm hq hst
  have hkI : (k : Int) ≠ 0 := by omega
  refine XS.asg (d := .int m) H hA (EV.toI (EV.callB H (by walk_at "kd") (by walk_at "mem") (EVs.cons H
      (EV.toL (b := (((List.range 12).filter (okM n k)).map fun (j : Nat) => (j : Int)).map .int) (EV.lcomp H (SrcE.toL (SrcE.range (EV.callT H (by walk_at "kd") (by walk_at "mem") (by walk_at "evs") TL.range1) (rng_small (n := 12) rfl (by decide) (by decide) (by decide) (by decide)) (rng_size (n := 12) rfl)) (rng_nat 12)) (Sees.of (ρc := [("k", .int k), ("n", .int n)]) hsc hcs (by decide +kernel) (by decide +kernel) (by kernel_rfl) (by walk_at "sub")) (Nat.le_trans (Nat.le_of_eq (List.length_map _)) (Nat.le_trans (List.length_filter_le _ _) (by rw [List.length_range]; decide)))
        fun F₂ IC => CL.one (fun (j : Nat) => .int j) (List.range 12) (okM n k) (fun (j : Nat) => .int j) IC (by decide +kernel) (by kernel_rfl) (fun j hj F₃ IC₃ H₃ => ?g1) fun j hj _ F₃ IC₃ H₃ => by walk_at "ev") (by rw [List.map_map]; rfl)) EVs.nil) (TL.min (by simpa using hm.1))) hm.2) (by walk_at "kd") (by walk_at "ne") ?_
  case g1 =>
    have hj' : j < 12 := List.mem_range.mp hj
    exact Ifs.one (TT.and2 H₃ (TT.cmp H₃ (EV.bin H₃ (by walk_at "ev") (by walk_at "ev") (T2.pow2 (by omega))) (by walk_at "ev") T2.gei) fun _ => TT.cmp H₃ (EV.bin H₃ (EV.bin H₃ (EV.bin H₃ (by walk_at "ev") (by walk_at "ev") (T2.pow2 (by omega))) (by walk_at "ev") T2.sub) (by walk_at "ev") (T2.fmod hkI)) (by walk_at "ev") T2.eqi)
  have hfq : ((2 : Int) ^ m - (n : Nat)).fdiv k = q ∧ ((2 : Int) ^ m - (n : Nat)).fmod k = 0 := by
    rw [hq, Int.fdiv_eq_ediv_of_nonneg _ (by omega), Int.fmod_eq_emod_of_nonneg _ (by omega)]
    exact ⟨Int.mul_ediv_cancel_left _ hkI, Int.mul_emod_right _ _⟩
  have bk : Bz 4 (k : Int) := .lt (by omega) (by omega)
  have bmn : Bz 3800 ((2 : Int) ^ m - (n : Nat)) := by
    rw [hq]; exact (Bz.mul bk (Bz.lt (n := 11) (by omega) (by omega))).mono (by decide)
  have e2 : EV C 22 F (("m", .int m) :: ("n", .int n) :: lawC text h s t k w x da dob [n0, n1, n2, n3]) (.BinOp (.Constant (.int 2) 0 ⟨256, 18, 256, 19⟩) .Pow (.Name "m" ⟨256, 23, 256, 24⟩) ⟨256, 18, 256, 24⟩) (.int (2 ^ m)) := EV.bin H (by walk_at "ev") (by walk_at "ev") (T2.pow2 (by omega))
  clear e2
  refine XS.iff (b := false) H hA (TT.cmp H (idm G' H (by walk_at "kd") (by decide) hkI (bk.mono (by decide)) bmn (EVs.cons H (EV.bin H (EV.bin H (by walk_at "ev") (by walk_at "ev") (T2.pow2 (by omega))) (by walk_at "ev") T2.sub) (EVs.cons H (by walk_at "ev") EVs.nil)) hfq)
      (EV.tup H (EVs.cons H (EV.toI (EV.bin H (EV.bin H (EV.bin H (by walk_at "ev") (by walk_at "ev") (T2.pow2 (by omega))) (by walk_at "ev") T2.sub) (by walk_at "ev") (T2.fdiv hkI (noPy hk _ rfl))) hfq.1) (by walk_at "evs")) (Nat.le_of_ble_eq_true rfl)) (T2.ner ((CN.tup (n := 0) (CN.cons (CN.int _) (CN.cons (CN.int _) CN.nil))).cmp))) (fun hb => absurd hb (by decide)) (fun _ => ?_)
  refine XS.thenn (ρ' := ("m", .int m) :: ("n", .int n) :: lawC text h s t k w x da dob [n0, n1, n2, n3]) ?_ (by walk_at "sub")
  refine XS.asg (d := .list ((unpair ps ++ [64 * (x : Int) + k]).map .int)) H hA (EV.toL (EV.bin H (EV.callF H (by walk_at "kd") (G.mg ("_law_steps", 113) (by decide)) (G.fd (113, 71, 112) (by decide)).choose_spec (EVs.cons H (by walk_at "ev") (EVs.cons H (by walk_at "ev") (EVs.cons H (by walk_at "ev") (EVs.cons H (by walk_at "ev") (EVs.cons H (by walk_at "ev") (EVs.cons H (EV.toI (EV.bin H (EV.bin H (EV.bin H (by walk_at "ev") (by walk_at "ev") (T2.pow2 (by omega))) (by walk_at "ev") T2.sub) (by walk_at "ev") (T2.fdiv hkI (noPy hk _ rfl))) hfq.1) EVs.nil)))))) (steps_spec G' h0 (Sz.mk (Nat.le_trans szT.out (by decide))) (by omega) hq12))
      (EV.lst H (EVs.cons H (EV.bin H (EV.bin H (by walk_at "ev") (by walk_at "ev") (T2.mulz (m := 7) (n := 26) (.lt (by decide) (by decide)) (.lt (by omega) (by omega)) rfl)) (by walk_at "ev") T2.add) EVs.nil) (Nat.le_of_ble_eq_true rfl)) (T2.addl (by rw [hst, List.length_map, unpair_len]; simp; omega))) (by rw [hst, List.map_append]; rfl)) (by walk_at "kd") (by walk_at "ne") ?_
  generalize hsx : unpair ps ++ [64 * (x : Int) + k] = steps at L bst loc
  have noct : (octsL steps).length ≤ 500 := by omega
  refine XS.asgC (out := (octsL steps).map .int) H hA (SrcE.list (by walk_at "ev")) (Sees.of (ρc := []) hsc hcs (by decide +kernel) (by decide +kernel) (by kernel_rfl) sub_nil) (by rw [List.length_map]; omega) (fun F₂ IC => by
      rw [show (octsL steps).map D.int = steps.flatMap fun a => (octJ a).map fun j => D.int (octV a j) by unfold octsL; rw [List.map_flatMap]; exact congrArg (fun f => steps.flatMap f) (funext fun a => by rw [List.map_map]; rfl)]
      exact CL.two D.int steps (fun (j : Nat) => D.int (j : Int)) octJ (fun one j => .int (octV one j)) IC (by decide +kernel) (by decide +kernel) (by decide +kernel) (by kernel_rfl) (by kernel_rfl) (fun one ho F₃ IC₃ H₃ => by
          have b40 := bst one ho
          have bo := b40.out
          have evl : ((vl one - 1 : Nat) : Int) = (((Builtin.Int.intBits one - 1) / 6 : Nat) : Int) := rfl
          exact SrcE.toL (SrcE.range (EV.callT H₃ (by walk_at "kd") (by walk_at "mem") (EVs.cons H₃ (EV.toI (EV.bin H₃ (EV.callB H₃ (by walk_at "kd") (by walk_at "mem") (EVs.cons H₃ (by walk_at "ev") (EVs.cons H₃ (EV.bin H₃ (EV.meth0 H₃ (by walk_at "ev") GetM.bitlen TL.bitlen) (by walk_at "ev") T2.sub) EVs.nil)) TL.max) (by walk_at "ev") (T2.fdiv (by decide) (noPyB (by decide)))) (max_eq.trans evl.symm)) (by walk_at "evs")) (TL.range3 (by decide) (noPyB (by decide)))) (small_rng (by have := vl_le b40; omega)) (by rw [size_rng]; rfl)) (rng_oct one)) (fun _ _ _ => rfl) (fun one ho j hj F₃ IC₃ H₃ => by
          have b40 := bst one ho
          have hj7 : j < 7 := by
            unfold octJ at hj
            obtain ⟨i, hi, rfl⟩ := List.mem_map.mp hj
            have := vl_le b40
            rw [List.mem_range] at hi
            omega
          have hp : ((64 : Int) ^ j).natAbs < 2 ^ 200 := by
            rw [Int.natAbs_pow]
            exact Nat.lt_of_le_of_lt (Nat.pow_le_pow_right (by decide) (Nat.le_of_lt hj7)) (by decide)
          exact EV.bin H₃ (EV.bin H₃ (EV.bin H₃ (by walk_at "ev") (EV.bin H₃ (by walk_at "ev") (by walk_at "ev") (T2.powk (a := 64) (by decide) (by omega))) (T2.fdiv (Int.pow_ne_zero (by decide)) (noPyB hp))) (by walk_at "ev") (T2.fmod (by decide))) (EV.bin H₃ (by walk_at "ev") (EV.cmp H₃ (by walk_at "ev") (by walk_at "ev") T2.gti) T2.mulb) T2.add)) (by walk_at "kd") (by walk_at "ne") ?_ (swC hsc fun L g c q f cd fr b => by kernel_rfl)
  have olt : ∀ i ∈ octsL steps, 0 ≤ i ∧ i < 128 := fun i hi => by
    unfold octsL at hi
    obtain ⟨one, _, hi⟩ := List.mem_flatMap.mp hi
    obtain ⟨j, _, rfl⟩ := List.mem_map.mp hi
    exact octV_lt one j
  generalize hox : octsL steps = octs at L noct olt
  refine XS.asg (d := .int (proofL n3 octs)) H hA (EV.callB H (by walk_at "kd") (by walk_at "mem") (EVs.cons H
      (EV.toL (b := (octs.zipIdx.map (proofV n3)).map .int) (EV.lcomp H (SrcE.toL (SrcE.enum H (by walk_at "kd") (by walk_at "ev")) (enumL_int octs)) (Sees.of (ρc := [("numbers", .list ([n0, n1, n2, n3].map .int))]) hsc hcs (by decide +kernel) (by decide +kernel) (by kernel_rfl) (by walk_at "sub")) (by simp; omega)
        fun F₂ IC => CL.allp (fun p => .int (p.2 : Nat)) (fun p => .int p.1) octs.zipIdx (fun p => .int (proofV n3 p)) IC (by decide +kernel) (by decide +kernel) (by decide +kernel) (by kernel_rfl) (by kernel_rfl) fun p hp F₃ IC₃ H₃ => ?g) (by rw [List.map_map]; rfl)) EVs.nil) TL.sum) (by walk_at "kd") (by walk_at "ne") ?_
  case g =>
    have hj : p.2 < octs.length := by have := List.mem_zipIdx hp; omega
    have hi : p.1 ∈ octs := by
      obtain ⟨_, _, e⟩ := List.mem_zipIdx hp
      rw [e]; exact List.getElem_mem _
    have ho := olt _ hi
    have hB : Bz 9 (p.1 + 128 * (if (((p.2 : Nat) : Int) + n3).fmod 3 == 0 then 1 else 0)) := by
      split <;> exact .lt (by omega) (by omega)
    have hP : Bz 4500 ((256 : Int) ^ p.2) := by
      have e : (256 : Int) ^ p.2 = 2 ^ (8 * p.2) := by rw [Int.pow_mul]; rfl
      rw [e]
      exact .lt (Int.le_of_lt (Int.pow_pos (by decide))) (Int.pow_lt_pow_of_lt (by decide) (by omega))
    exact EV.bin H₃ (EV.bin H₃ (by walk_at "ev") (EV.bin H₃ (by walk_at "ev") (EV.cmp H₃ (EV.bin H₃ (EV.bin H₃ (by walk_at "ev") (EV.item (T := "list") H₃ (by walk_at "ev") (by walk_at "ev") (T2.idxl (d := .int n3) (by decide) (by decide) rfl) rfl) T2.add) (by walk_at "ev") (T2.fmod (by decide))) (by walk_at "ev") T2.eqi) T2.mulb) T2.add) (EV.bin H₃ (by walk_at "ev") (by walk_at "ev") (T2.powk (a := 256) (by decide) (by omega))) (T2.mulz hB hP rfl)
  refine XS.weaken (ρ' := lawR text h s t k w x da dob steps octs (proofL n3 octs)) ?_ (by walk_at "sub")
  subst hsx
  exact law_d G S hsc hcs hA hfr hF L hd hf
end
section
variable {prog : Program} {w : World} {A : Around} {E : Value → Shared → Prop} {s : Shared}
theorem call_strike {l : List Nat} {c : Nat} {t u v : Tok} {Q : Value → Shared → Prop} (hu : u ≠ 0) (hv : v ≠ 0) (huv : u ≠ v) (hb : l.length ≤ 1048576)
    (hq : ∀ t' k, s.toks ≤ k → Q (.str (mkS (l.filter (· != c))) t') { s with toks := k }) : wpAny (model prog w) A (call (.builtin "str.replace") [.str (mkS l) t, .str (mkS [c]) u, .str (mkS []) v]) Q E s := by
  have er : Txt.replace (mkS l) (mkS [c]) (mkS []) = mkS (l.filter (· != c)) := by
    have := replace_strikes (mkS l) c
    rw [← mkS_toList (Txt.replace (mkS l) (mkS [c]) (mkS []))]
    exact congrArg mkS this
  rw [← er] at hq
  have hyz : ((mkS [c] : Str) == mkS []) = false := by
    apply Bool.eq_false_iff.mpr; intro hh; have e := eq_of_beq hh; injection e with e1; simp at e1
  have hl : Builtin.Str.tooLong ((mkS l).length + (Builtin.Str.occurrences (mkS l) (mkS [c]) 0 (mkS l).length ((mkS l).length + 1)).length * (mkS []).length) = false := by
    unfold Builtin.Str.tooLong
    rw [mkS_len, mkS_len, sizeLine_eq]
    exact decide_eq_false (by simp; omega)
  refine call_gives PySem.F.slot_str_replace (typeIs_str _ _ _) PySem.F.entry_str_replace (PySem.F.args_str_replace_3 _ _ _)
    (gives_str_replace (mkS l) (mkS [c]) (mkS []) t u v fun _ => ⟨by simp [hu, hv], by simp [huv], hyz, hl⟩) ?_
  have hq' := hq
  unfold Txt.replace at hq'
  cases hc : ((Builtin.Str.occurrences (mkS l) (mkS [c]) 0 (mkS l).length ((mkS l).length + 1)).isEmpty || ((mkS [c]).length == 0 && (mkS []).length == 0))
  · rw [hc] at hq'
    simp only [Bool.false_eq_true, if_false] at hq' ⊢
    exact ⟨fits_replaced _ (by rw [mkS_len, mkS_len]; simp; omega), hq' _ _ (Nat.le_succ _)⟩
  · rw [hc] at hq'
    simp only [if_true] at hq' ⊢
    exact hq' t s.toks (Nat.le_refl _)
end
section
variable {C : Base} {k : Nat} {F : Fn} {ρ : Rho} {prog : Program} {A : Around} {R : Shared → Prop}
noncomputable def TokAt (F : Fn) (s : Shared) (x : Str) (c : Nat) : Prop := ∃ m t, s.heap.Ns F.env.locals m ∧ At F s.heap m x (.str (mkS [c]) t) ∧ t ≠ 0 ∧ t < s.toks
theorem TokAt.up {s : Shared} {x : Str} {c j : Nat} (h : TokAt F s x c) (hj : s.toks ≤ j) : TokAt F { s with toks := j } x c := let ⟨m, t, a, b, d, e⟩ := h; ⟨m, t, a, b, d, Nat.lt_of_lt_of_le e hj⟩
noncomputable def Ups (R : Shared → Prop) : Prop := ∀ s j, R s → s.toks ≤ j → R { s with toks := j }
theorem St.tok {s : Shared} {j : Nat} (H : FOK F) (hs : St C F ρ s) : St C F ρ { s with toks := j } := hs.step Step.tok H.nt
noncomputable def EK (prog : Program) (C : Base) (A : Around) (F : Fn) (ρ : Rho) (R : Shared → Prop) (e : Expr) (l : List Nat) : Prop := ∀ (s : Shared) (Q : Value → Shared → Prop) (E : Value → Shared → Prop), St C F ρ s → R s → (∀ t j, s.toks ≤ j → Q (.str (mkS l) t) { s with toks := j }) → wpAny (model prog C.w) A (eval e F.env) Q E s
noncomputable def EI (prog : Program) (C : Base) (A : Around) (F : Fn) (ρ : Rho) (n : Nat) (e : Expr) (i : Int) : Prop := ∀ (s : Shared) (Q : Value → Shared → Prop) (E : Value → Shared → Prop), St C F ρ s → (∀ t j, s.toks + n ≤ j → Q (.int i t) { s with toks := j }) → wpAny (model prog C.w) A (eval e F.env) Q E s
theorem EK.name (H : FOK F) {x : Str} {l : List Nat} {p : Pos} (hm : (x, .str l) ∈ ρ) (hd : (x == ("__debug__" : Str)) = false := by decide +kernel) : EK prog C A F ρ R (.Name x p) l := fun s Q E hs _ hQ => by
  obtain ⟨m, n, hh⟩ := hs.fr
  obtain ⟨v, r, a⟩ := hh _ hm
  obtain ⟨t, rfl⟩ := (r.rep rfl).str_i
  exact At.load H n a hd (hQ t s.toks (Nat.le_refl _))
theorem EI.name (H : FOK F) {x : Str} {i : Int} {p : Pos} (hm : (x, .int i) ∈ ρ) (hd : (x == ("__debug__" : Str)) = false := by decide +kernel) : EI prog C A F ρ 0 (.Name x p) i := fun s Q E hs hQ => by
  obtain ⟨m, n, hh⟩ := hs.fr
  obtain ⟨v, r, a⟩ := hh _ hm
  obtain ⟨t, rfl⟩ := (r.rep rfl).int_i
  exact At.load H n a hd (hQ t s.toks (Nat.le_refl _))
theorem EI.mod {e : Expr} {n q : Nat} {i c : Int} {p p2 : Pos} (h : EI prog C A F ρ n e i) (hc : c ≠ 0) : EI prog C A F ρ 1 (.BinOp e .Mod (.Constant (.int c) q p) p2) (i.fmod c) := fun s Q E hs hQ =>
  wpAny_BinOp (h _ _ _ hs fun t j hj => wpAny_Constant_int (mod_int hc (hQ _ _ (by show s.toks + 1 ≤ j + 1 + 1; omega))))
theorem EI.div {e : Expr} {n q : Nat} {i c : Int} {p p2 : Pos} (h : EI prog C A F ρ n e i) (hc : c ≠ 0) (hp : Builtin.divisionGoesByPylong i c = false) : EI prog C A F ρ 1 (.BinOp e .FloorDiv (.Constant (.int c) q p) p2) (i.fdiv c) := fun s Q E hs hQ =>
  wpAny_BinOp (h _ _ _ hs fun t j hj => wpAny_Constant_int (floordiv_int hc (hQ _ _ (by show s.toks + 1 ≤ j + 1 + 1; omega)) (.inl hp)))
theorem EK.strike (H : FOK F) {o : Expr} {x : Str} {c q : Nat} {l : List Nat} {apos pos px pe : Pos} {pl : Sem Bool} {es : Str} (hes : es = mkS []) (h : EK prog C A F ρ R o l) (hR : ∀ s, R s → TokAt F s x c) (hu : Ups R) (hl : l.length ≤ 1048576)
    (he : eval (.Call (.Attribute o "replace" apos) [.Name x px, .Constant (.str es) q pe] [] pos) F.env = (do
      let ov ← eval o F.env
      standAt apos.atName
      let (f, first) ← holding [ov] (getMethod ov "replace" pl)
      callWith pos f first (backTo pos (starEach [.Name x px, .Constant (.str es) q pe] F.env)) []) := by rfl)
    (he2 : starEach [.Name x px, .Constant (.str es) q pe] F.env = (false, eval (.Name x px) F.env) :: starEach [.Constant (.str es) q pe] F.env := by rfl) (he3 : starEach [.Constant (.str es) q pe] F.env = (false, eval (.Constant (.str es) q pe) F.env) :: starEach [] F.env := by rfl)
    (hp : (backTo pos (starEach [.Constant (.str es) q pe] F.env)).any (·.1) = false := by rfl) (hd : (x == ("__debug__" : Str)) = false := by decide +kernel) :
    EK prog C A F ρ R (.Call (.Attribute o "replace" apos) [.Name x px, .Constant (.str es) q pe] [] pos) (l.filter (· != c)) := fun s Q E hs hr hQ => by
  subst hes
  refine MethodCall_ (pl := pl) (h _ _ _ hs hr fun t j hj => GM.replace ?_) he
  refine callWith_method1 ?_ he2 hp
  obtain ⟨m, u, n, a, h1, h2⟩ := hR _ (hu _ _ hr hj)
  refine spliced_more (At.load H n a hd (spliced_more (Calls.Constant_str (spliced_none ?_)) he3)) he2
  refine call_strike h1 (Nat.ne_of_gt (Nat.lt_of_le_of_lt (Nat.zero_le u) (show u < j from h2))) (Nat.ne_of_lt (show u < j from h2)) hl fun t' k' hk => hQ t' k' ?_
  have hk : j + 1 ≤ k' := hk
  omega
theorem EK.item {e i : Expr} {pos : Pos} {l : List Nat} {j c : Nat} (H : FOK F) (h : EK prog C A F ρ R e l) (hi : EI prog C A F ρ 1 i (j : Int)) (hj : j < 2 ^ 62) (hc : l[j]? = some c)
    {s : Shared} {Q : Value → Shared → Prop} {E : Value → Shared → Prop} (hs : St C F ρ s) (hr : R s) (hQ : ∀ t n, t ≠ 0 → t < n → s.toks ≤ n → Q (.str (mkS [c]) t) { s with toks := n })
    (hsub : ∀ o v, subscripted i false o v = operate [o, v] (getItem o v) := by intro _ _; rfl) : wpAny (model prog C.w) A (eval (.Subscript e i pos) F.env) Q E s := by
  obtain ⟨id, hl⟩ := itemT_lookup (d := .str l) rfl
  refine Subscript_ (h _ _ _ hs hr fun t n hn => hi _ _ _ (hs.tok H) fun t2 n2 hn2 => ?_)
  have hn2 : n + 1 ≤ n2 := hn2
  refine tail_any (typeIs_str _ _ _) hl (P.getItem_str (c := c) (by rw [decide_eq_false (by omega), decide_eq_false (by omega)]; rfl) ?_ (hQ n2 (n2 + 1) (by omega) (by omega) (by omega))) (hsub _ _)
  have hlt := (List.getElem?_eq_some_iff.mp hc).1
  rw [mkS_len, seqIndex_pos (by omega) (by rw [Int.toNat_natCast]; exact hlt), Int.toNat_natCast]
  show (List.toArray l)[j]? = some c
  rw [List.getElem?_toArray]; exact hc
end
section
variable {C : Base} {k : Nat} {F : Fn} {ρ : Rho} {prog : Program} {A : Around} {Q : Flow → Shared → Prop} {E : Value → Shared → Prop}
theorem St.stored (H : FOK F) {s : Shared} {x : Str} {d : D} {v : Value} {m : Str → Option Value} {h' : Heap} (hs : St C F ρ s) (n : s.heap.Ns F.env.locals m) (hh : ∀ p ∈ ρ, Has F s.heap m p.1 p.2) (hl : F.env.kindOf x = some .local) (hr : HasV F s.heap v d) (hx : ∀ p ∈ ρ, p.1 ≠ x)
    (n' : h'.Ns F.env.locals (fun z => if z = x then some v else m z)) (hsb : Heap.SameBut F.env.locals s.heap h') : St C F ((x, d) :: ρ) { s with heap := h' } := by
  have hm := vis_upd H.mu hsb
  have hw : ∀ a ob, F.own a → plainO ob = true → s.heap.get? a = some ob → F.own a ∧ h'.get? a = some ob := fun a ob w p e => ⟨w, (hsb.2 a fun q => by rw [plain_ne_dict n (q ▸ e)] at p; cases p).trans e⟩
  refine ⟨hs.ok.upd H.mu (notTab_ns hs.ok.tabs n) hsb (let ⟨o, _, _, e, _⟩ := n'; ⟨o, e⟩), fun a o e => (hsb.2 a fun q => H.kp o (q ▸ e)).trans (hs.kept a o e), hs.since.trans (Since.sameBut (notTab_ns hs.ok.tabs n) hsb (let ⟨o, _, _, e, _⟩ := n'; ⟨o, e⟩)), fun y c e => let ⟨v, hc⟩ := hs.cells y c e; ⟨v, hc.sameBut hsb (ns_ne_cell n hc)⟩, _, n', fun p hp => ?_⟩
  rcases List.mem_cons.mp hp with rfl | hp
  · exact ⟨v, hr.mono hm hw, .inl ⟨hl, by simp⟩⟩
  · obtain ⟨w, r, a⟩ := hh p hp
    exact ⟨w, r.mono hm hw, a.set n hsb (hx p hp)⟩
theorem St.storedC (H : FOK F) {s : Shared} {x : Str} {c : Addr} {d : D} {v : Value} {m : Str → Option Value} {h' : Heap} (K : CellOK F x c) (hs : St C F ρ s) (n : s.heap.Ns F.env.locals m) (hh : ∀ p ∈ ρ, Has F s.heap m p.1 p.2) (hr : HasV F s.heap v d) (hx : ∀ p ∈ ρ, p.1 ≠ x)
    {v0 : Option Value} (hc : s.heap.IsCell c v0) (hc' : h'.IsCell c (some v)) (hsb : Heap.SameBut c s.heap h') : St C F ((x, d) :: ρ) { s with heap := h' } ∧ h'.Ns F.env.locals m := by
  have hm := vis_upd (K.mu H) hsb
  have hw : ∀ a ob, F.own a → plainO ob = true → s.heap.get? a = some ob → F.own a ∧ h'.get? a = some ob := fun a ob w p e => ⟨w, (hsb.2 a fun q => by rw [plain_ne_cell hc (q ▸ e)] at p; cases p).trans e⟩
  have hne : F.env.locals ≠ c := (ns_ne_cell n hc).symm
  have nm := n.sameBut hsb hne
  refine ⟨⟨hs.ok.upd (tk := s.toks) (K.mu H) (notTab_cell hs.ok.tabs hc) hsb (let ⟨o, e, _⟩ := hc'; ⟨o, e⟩), fun a o e => (hsb.2 a fun q => K.kp H o (q ▸ e)).trans (hs.kept a o e), hs.since.trans (Since.sameBut (notTab_cell hs.ok.tabs hc) hsb (let ⟨o, e, _⟩ := hc'; ⟨o, e⟩)), fun y c₂ e => (by
    by_cases q : c₂ = c
    · rw [q]; exact ⟨_, hc'⟩
    · obtain ⟨v, hv⟩ := hs.cells y c₂ e
      exact ⟨v, hv.sameBut hsb q⟩), _, nm, fun p hp => ?_⟩, nm⟩
  rcases List.mem_cons.mp hp with rfl | hp
  · exact ⟨v, hr.mono hm hw, .inr ⟨.inl K.kind, c, K.at_, hc'⟩⟩
  · obtain ⟨w, r, a⟩ := hh p hp
    refine ⟨w, r.mono hm hw, ?_⟩
    rcases a with h1 | ⟨h1, c₂, h2, h3⟩
    · exact .inl h1
    · exact .inr ⟨h1, c₂, h2, h3.sameBut hsb fun q => hx p hp (K.inj _ (q ▸ h2))⟩
theorem EI.to {n : Nat} {e : Expr} {i j : Int} (h : EI prog C A F ρ n e i) (q : i = j) : EI prog C A F ρ n e j := q ▸ h
theorem law_trio (H : FOK F) (hsc : F.env.scope = sc (stmtAt 73)) (hcs : ∀ x, (sc (stmtAt 73)).names.lookup x = some .cell → ∃ c, CellOK F x c) {pl : List Nat} {x h s t : Nat} (hx : ((("x", .int x) : Str × D)) ∈ ρ) (hp : ((("pool", .str pl) : Str × D)) ∈ ρ) (hlp : pl.length ≤ 100)
    (e1 : pl[x % 23]? = some h) (e2 : (pl.filter (· != h))[x / 23 % 22]? = some s) (e3 : ((pl.filter (· != h)).filter (· != s))[x / 506 % 21]? = some t)
    (hn : ρ.all (fun p => !(["head", "stroke", "knot"] : List Str).contains p.1) = true)
    (hr : XS prog C A F (("knot", .str [t]) :: ("stroke", .str [s]) :: ("head", .str [h]) :: ρ) ((bd (stmtAt 73)).drop 6) Q E) : XS prog C A F ρ ((bd (stmtAt 73)).drop 3) Q E := by
  intro st hs
  have hne : ∀ y ∈ (["head", "stroke", "knot"] : List Str), ∀ p ∈ ρ, p.1 ≠ y := fun y hy p hp q => sub_notin hn p hp (q ▸ hy)
  have d23 : ((x : Nat) : Int).fmod 23 = ((x % 23 : Nat) : Int) := by rw [Int.fmod_eq_emod_of_nonneg _ (by decide)]; omega
  have d22 : (((x : Nat) : Int).fdiv 23).fmod 22 = ((x / 23 % 22 : Nat) : Int) := by rw [Int.fdiv_eq_ediv_of_nonneg _ (by decide), Int.fmod_eq_emod_of_nonneg _ (by decide)]; omega
  have d21 : (((x : Nat) : Int).fdiv 506).fmod 21 = ((x / 506 % 21 : Nat) : Int) := by rw [Int.fdiv_eq_ediv_of_nonneg _ (by decide), Int.fmod_eq_emod_of_nonneg _ (by decide)]; omega
  have kh : F.env.kindOf "head" = some .local := by walk_at "kd"
  obtain ⟨cs, Ks⟩ := hcs "stroke" (by decide +kernel)
  obtain ⟨ct, Kt⟩ := hcs "knot" (by decide +kernel)
  refine wpAny_execs_cons (wpAny_Assign_Name (EK.item (R := fun _ => True) H (EK.name H hp) ((EI.mod (EI.name H hx) (by decide)).to d23) (by omega) e1 hs trivial fun t1 n1 h0 hlt _ => ?_) rfl)
  have hs1 : St C F ρ { st with toks := n1 } := hs.tok H
  obtain ⟨m, n, hh⟩ := hs1.fr
  refine wpAny_storeName_local kh n (fun h' n' hsb => ?_) (by rw [H.kind]; rfl)
  have hs2 := hs1.stored H n hh kh (.of (.str [h] t1) : HasV F _ _ (.str [h])) (hne "head" (by decide)) n' hsb
  have hs2 := hs2.tok H (j := n1 + 1)
  have T2 : TokAt F { st with heap := h', toks := n1 + 1 } "head" h := ⟨_, t1, n', .inl ⟨kh, by simp⟩, h0, Nat.lt_succ_of_lt hlt⟩
  clear hs1 hs
  have up1 : Ups (fun s => TokAt F s "head" h) := fun s j a b => a.up b
  refine wpAny_execs_cons (wpAny_Assign_Name (EK.item (R := fun s => TokAt F s "head" h) H (EK.strike H str_empty (EK.name H (List.mem_cons_of_mem _ hp)) (fun _ q => q) up1 (by omega)) ((EI.mod (EI.div (EI.name H (List.mem_cons_of_mem _ hx)) (by decide) (noPyB (by decide))) (by decide)).to d22) (by omega) e2 hs2 T2 fun t2 n2 h0' hlt' hn2 => ?_) rfl)
  have hs3 := hs2.tok H (j := n2)
  have T3 := T2.up (j := n2) hn2
  obtain ⟨m2, n2', hh2⟩ := hs3.fr
  obtain ⟨v0, hc⟩ := hs3.cells _ _ Ks.at_
  refine wpAny_storeName_cell H.kind Ks.kind Ks.at_ hc (fun h'' hc' hsb' => ?_)
  have hx2 : ∀ p ∈ (("head", D.str [h]) :: ρ : Rho), p.1 ≠ "stroke" := fun p hp => (List.mem_cons.mp hp).elim (fun q => by rw [q]; exact (by decide : ("head" : Str) ≠ "stroke")) (hne "stroke" (by decide) p)
  obtain ⟨hs4, nm⟩ := hs3.storedC H Ks n2' hh2 (.of (.str [s] t2) : HasV F _ _ (.str [s])) hx2 hc hc' hsb'
  have T4 : TokAt F { st with heap := h'', toks := n2 } "head" h ∧ TokAt F { st with heap := h'', toks := n2 } "stroke" s := by
    refine ⟨?_, m2, t2, nm, .inr ⟨.inl Ks.kind, cs, Ks.at_, hc'⟩, h0', hlt'⟩
    obtain ⟨m3, t3, a, b, c, d⟩ := T3
    have hne : F.env.locals ≠ cs := (ns_ne_cell n2' hc).symm
    refine ⟨m3, t3, a.sameBut hsb' hne, ?_, c, d⟩
    rcases b with b | ⟨b, _⟩
    · exact .inl b
    · rcases b with b | ⟨b, _⟩ <;> rw [kh] at b <;> cases b
  refine wpAny_execs_cons (wpAny_Assign_Name (EK.item (R := fun s' => TokAt F s' "head" h ∧ TokAt F s' "stroke" s) H (EK.strike H str_empty (EK.strike H str_empty (EK.name H (List.mem_cons_of_mem _ (List.mem_cons_of_mem _ hp))) (fun _ q => q.1) (fun s j a b => ⟨a.1.up b, a.2.up b⟩) (by omega)) (fun _ q => q.2) (fun s j a b => ⟨a.1.up b, a.2.up b⟩) (Nat.le_trans (List.length_filter_le _ _) (by omega))) ((EI.mod (EI.div (EI.name H (List.mem_cons_of_mem _ (List.mem_cons_of_mem _ hx))) (by decide) (noPyB (by decide))) (by decide)).to d21) (by omega) e3 hs4 T4 fun t4 n4 _ _ _ => ?_) rfl)
  have hx3 : ∀ p ∈ (("stroke", D.str [s]) :: ("head", D.str [h]) :: ρ : Rho), p.1 ≠ "knot" := fun p hp => (List.mem_cons.mp hp).elim (fun q => by rw [q]; exact (by decide : ("stroke" : Str) ≠ "knot")) fun hp => (List.mem_cons.mp hp).elim (fun q => by rw [q]; exact (by decide : ("head" : Str) ≠ "knot")) (hne "knot" (by decide) p)
  exact St.storeC H Kt (hs4.tok H) (.str [t] t4) hx3 fun s5 h5 => hr s5 h5
end
section
variable {C : Base} {k : Nat} {F : Fn} {ρ : Rho} {prog : Program} {A : Around} {Q : Flow → Shared → Prop} {E : Value → Shared → Prop} {rest : List Stmt}
theorem EV.dict3 (H : FOK F) {v1 v2 v3 e : Expr} {d1 d2 d3 d : D} {key : Int} {q1 q2 q3 : Nat} {p1 p2 p3 pd pos : Pos} (h1 : ∀ F₂, FOK F₂ → F₂.env = F.env → EV C k F₂ ρ v1 d1) (h2 : ∀ F₂, FOK F₂ → F₂.env = F.env → EV C k F₂ ρ v2 d2) (h3 : ∀ F₂, FOK F₂ → F₂.env = F.env → EV C k F₂ ρ v3 d3) (he : EV C k F ρ e (.int key))
    (h : (key = 3 ∧ d = d1) ∨ (key = 5 ∧ d = d2) ∨ (key = 7 ∧ d = d3))
    (hs : ∀ o v, subscripted e false o v = operate [o, v] (getItem o v) := by intro _ _; rfl) :
    EV C k F ρ (.Subscript (.Dict [some (.Constant (.int 3) q1 p1), some (.Constant (.int 5) q2 p2), some (.Constant (.int 7) q3 p3)] [v1, v2, v3] pd) e pos) d := by
  refine EV.mk ?_
  intro prog A s Q E hA hs0 hQ
  refine Subscript_ (wpAny_Dict_pairs (knd := intKind prog C.w) (pairs := [(eval (.Constant (.int 3) q1 p1) F.env, do let x ← eval v1 F.env; standAt pd; pure x), (eval (.Constant (.int 5) q2 p2) F.env, do let x ← eval v2 F.env; standAt pd; pure x), (eval (.Constant (.int 7) q3 p3) F.env, do let x ← eval v3 F.env; standAt pd; pure x)]) rfl (by simp) (by simp) ?_)
  obtain ⟨oB, hoB, hdB⟩ := Heap.dictOf_iff.mp (Heap.DictOf.new (knd := intKind prog C.w) s.heap)
  have oBe : oB = { cls := .type "dict", data := .dict #[] } := by have := Heap.get?_push_size s.heap (o := { cls := .type "dict", data := .dict #[] }) rfl; rw [hoB] at this; exact Option.some.inj this
  generalize hB : s.heap.objs.size = B at *
  have nB : s.heap.get? B = none := hB ▸ fresh_none _
  let X : Addr → Prop := fun a => a = B
  have y1 : Step s { s with heap := s.heap.push { cls := .type "dict", data := .dict #[] } } := Step.push'
  have HX : FOK (F.addOwns X) := H.adds fun a o q w => by have := hs0.kept a o q; rw [show a = B from w, nB] at this; cases this
  have hs1 : St C (F.addOwns X) ρ { s with heap := s.heap.push { cls := .type "dict", data := .dict #[] } } := hs0.addOwns H y1 (fun a w => (show a = B from w) ▸ nB) (fun a w => (show a = B from w) ▸ ⟨_, hoB⟩) fun a w => (show a = B from w) ▸ ref_notCode hoB (fun vs q t q2 => by rw [oBe] at q2; cases q2)
  have ntB : ¬ isTab B := fun t => by obtain ⟨o, q⟩ := tab_live hs0.ok.tabs B t; rw [nB] at q; cases q
  have fin : ∀ {w : Value} {s' : Shared} {Q : Value → Shared → Prop} {E : Value → Shared → Prop}, Q w s' → wpAny (model prog C.w) A (do standAt pd; pure w) Q E s' := fun h => wpAny_bind (wpAny_standAt (wpAny_pure h))
  refine evalPairs_cons (wpAny_Constant_int (wpAny_bind ((h1 _ HX rfl).run _ _ _ _ _ hA (hs1.tok HX) fun w1 s1 z1 r1 => fin ?_)))
  have hs2 := (hs1.tok HX (j := s.toks + 1)).step z1 HX.nt
  refine evalPairs_cons (wpAny_Constant_int (wpAny_bind ((h2 _ HX rfl).run _ _ _ _ _ hA (hs2.tok HX) fun w2 s2 z2 r2 => fin ?_)))
  have hs3 := (hs2.tok HX (j := s1.toks + 1)).step z2 HX.nt
  refine evalPairs_cons (wpAny_Constant_int (wpAny_bind ((h3 _ HX rfl).run _ _ _ _ _ hA (hs3.tok HX) fun w3 s3 z3 r3 => fin ?_)))
  have hs4 := (hs3.tok HX (j := s2.toks + 1)).step z3 HX.nt
  refine evalPairs_nil ?_
  have z12 : Step s1 s2 := Step.tok.trans z2
  have z23 : Step s2 s3 := Step.tok.trans z3
  have z01 : Step { s with heap := s.heap.push { cls := .type "dict", data := .dict #[] } } s1 := Step.tok.trans z1
  have z03 := z01.trans (z12.trans z23)
  refine ⟨[(3, w1), (5, w2), (7, w3)], ⟨intKind_is _ _ _ _, rfl, intKind_is _ _ _ _, rfl, intKind_is _ _ _ _, rfl, trivial⟩, Heap.dictOf_iff.mpr ⟨oB, z03.keep B _ ntB hoB, hdB⟩, fun h' hd' hsb => ?_⟩
  have yS : Step s { s3 with heap := h', toks := s3.toks + 3 } := Step.upd nB hs0.ok.tabs (y1.trans z03) hsb ntB fun P l1 l2 c' hP q q2 => hs4.ok.code P l1 l2 c' hP q (.inr q2)
  have hs5 := hs0.step yS H.nt
  have hv : ∀ a o, vis (F.addOwns X).Mu s3.heap a o → vis F.Mu h' a o := fun a o v => ⟨fun hm => v.1 (.inl hm), (hsb.2 a fun q => v.1 (.inr q)).trans v.2⟩
  have r1' := (r1.mono ((hs2.ok.vis z12))).mono (hs3.ok.vis z23) |>.mono hv
  have r2' := (r2.mono (hs3.ok.vis z23)).mono hv
  have r3' := r3.mono hv
  have key' : ∃ v, valueAt (merged [] [((3 : Int), w1), (5, w2), (7, w3)]) key = some v ∧ Rep (vis F.Mu h') v d := by
    rcases h with ⟨rfl, rfl⟩ | ⟨rfl, rfl⟩ | ⟨rfl, rfl⟩
    · exact ⟨w1, rfl, r1'⟩
    · exact ⟨w2, rfl, r2'⟩
    · exact ⟨w3, rfl, r3'⟩
  obtain ⟨v, hv1, rv⟩ := key'
  refine he.run _ _ _ _ _ hA hs5 fun vk s6 y6 r6 => ?_
  obtain ⟨t, rfl⟩ := r6.int_i
  have hd6 : Heap.DictOf (intKind prog C.w) s6.heap B (merged [] [((3 : Int), w1), (5, w2), (7, w3)]) := by
    obtain ⟨o6, e6, d6⟩ := Heap.dictOf_iff.mp hd'
    exact Heap.dictOf_iff.mpr ⟨o6, y6.keep B _ ntB e6, d6⟩
  exact tail_any hd6.typeIs slot_dict_getitem.lookup (wpAny_getItem_of (intKind_is prog C.w key t) hd6.mapOf hv1 (hQ _ _ (yS.trans (y6.trans Step.tok)) (rv.mono (hs5.ok.vis y6)))) (hs _ _)
theorem CellOK.addOwn {x : Str} {c l : Addr} (K : CellOK F x c) : CellOK (F.addOwn l) x c := ⟨K.kind, K.at_, .inl K.own, K.inj⟩
theorem XS.powStart {F₀ : Fn} (S : Sub F₀ F) {x y : Str} {ts : List Expr} {n : Nat} {tp pos lp : Pos} {m2 : Nat} {tp2 : Pos} {e : Expr} {es : List Expr} {ds ys : List D} (hA : Rm k A) (he : EV C k F ρ e (.list ds)) (hes : EVs C k F ρ es ys) (hys : ys.all D.flat = true) (hyl : ys.length ≤ 4096) (kx : F.env.kindOf x = some .local) (ky : F.env.kindOf y = some .local) (hx : ∀ p ∈ ρ, p.1 ≠ x) (hy : ∀ p ∈ ρ, p.1 ≠ y) (hxy : y ≠ x)
    (h : ∀ F₂, Sub F₀ F₂ → (∀ y c, CellOK F y c → CellOK F₂ y c) → XS prog C A F₂ ((x, .list ds) :: (y, .own ys) :: ρ) rest Q E)
    (hs : swapsWithSole [.Tuple ts n tp] (.Tuple [e, .List es lp] m2 tp2) pos.line F.env = pure false) (hw : swappedStores [.Tuple ts n tp] (.Tuple [e, .List es lp] m2 tp2) F.env = pure (some [x, y]))
    (h1 : starEach [e, .List es lp] F.env = (false, eval e F.env) :: starEach [.List es lp] F.env := by rfl) (h2 : starEach [.List es lp] F.env = (false, eval (.List es lp) F.env) :: starEach [] F.env := by rfl) :
    XS prog C A F ρ (.Assign [.Tuple ts n tp] (.Tuple [e, .List es lp] m2 tp2) pos :: rest) Q E := by
  intro s hs0
  have H := S.fok
  refine wpAny_execs_cons (Assign_Tuple_swapped (Tuple_ (spliced_more (he.run _ _ _ _ _ hA hs0 fun v1 s1 y1 r1 => spliced_more ((EVF.lst hes hyl).run _ _ _ _ _ hA (hs0.step y1 H.nt) fun l vs q s2 y2 hn hv r => spliced_none ?_) h2) h1)) hs hw)
  have hs1 := hs0.step y1 H.nt
  have hs2 := hs1.step y2 H.nt
  refine wpAny_newTuple ?_ (by rw [sizeLine_eq]; exact Nat.le_of_ble_eq_true rfl)
  refine unpackItems_tuple (items := #[v1, .ref l]) hA.1 ⟨_, Heap.get?_push_size _ rfl, rfl, _, rfl⟩ fun h' hx' => ?_
  have ky' : ∀ a o, s2.heap.get? a = some o → h'.get? a = some o := fun a o e => hx' a o (Nat.ne_of_lt (Heap.lt_size (Heap.get?_push_of_some _ e))) (Heap.get?_push_of_some _ e)
  have y3 : Step s2 { s2 with heap := h', toks := s2.toks } := Step.of ky'
  have n0 : s.heap.get? l = none := y1.none_of hs0.ok.tabs hn
  have W := WrOK.of H hs0 (wr := (· = l)) fun a q => q ▸ n0
  have S₂ := S.add (l := l) (fun hm => W.mu l hm rfl) (fun a o e q => W.kp a o e q)
  have hs3 := hs0.addOwn H (y1.trans (y2.trans y3)) n0 (ky' _ _ hv)
  have v1' : Rep (vis (F.addOwn l).Mu h') v1 (.list ds) := r1.mono fun a o v => ⟨fun hm => hm.elim v.1 fun q => (by have h2 := v.2; rw [q, hn] at h2; cases h2), ky' _ _ (hs1.ok.vis y2 a o v).2⟩
  have up : ∀ y c, CellOK F y c → CellOK (F.addOwn l) y c := fun y c K => K.addOwn
  have L := Like.base S₂.fok h'
  refine assignInOrder_cons (bindName_ (St.storeV L.fok hs3.base (d := .own ys) (by rw [L.env]; exact ky) ⟨l, vs, q, rfl, .inr rfl, ky' _ _ hv, r.flat hys⟩ hy fun s4 h4 => ?_))
  refine assignInOrder_cons (bindName_ (St.store S₂.fok (St.unbase S₂.fok hs3 h4) kx (v1'.mono (vis_base (s := { s2 with heap := h', toks := s2.toks }) S₂.fok h4 hs3.ok.tab)) (fun p hp => (List.mem_cons.mp hp).elim (fun q => by rw [q]; exact hxy) (hx p)) fun s5 h5 => ?_))
  exact wpAny_pure (h _ S₂ up s5 h5)
theorem XS.freezeK {F₀ : Fn} (S : Sub F₀ F) (hO : ∀ a, F₀.own a → a = F₀.env.locals ∨ ∃ x, F₀.env.cells.lookup x = some a) {x : Str} {ds : List D} {ρ₂ : Rho} {sts : List Stmt} (hm : (x, .own ds) ∈ ρ) (hρ : ∀ p ∈ ρ₂, p = (x, .list ds) ∨ p ∈ ρ ∧ p.2.isOwn = false)
    (h : ∀ F₂, Sub F₀ F₂ → (∀ y c, CellOK F y c → CellOK F₂ y c) → XS prog C A F₂ ρ₂ sts Q E) : XS prog C A F ρ sts Q E := by
  intro s hs
  obtain ⟨l, vs, n, m, w, e, r, nn, a, hh, nt, hL⟩ := hs.ownAt hm
  have hn : ¬ F₀.own l := fun q => by
    rcases hO l q with q | ⟨y, q⟩
    · exact hL (by rw [S.env]; exact q.symm)
    · obtain ⟨v, o, e2, hd⟩ := hs.cells y l (by rw [S.env]; exact q)
      rw [e] at e2; cases e2; cases hd
  refine h _ (S.drop hL ((S.new l w).resolve_left hn)) (fun y c K => ⟨K.kind, K.at_, ⟨K.own, fun q => ?_⟩, K.inj⟩) s (hs.drop w e r nn a hh hρ)
  obtain ⟨v, o, e2, hd⟩ := hs.cells y c K.at_
  rw [q, e] at e2; cases e2; cases hd
theorem XS.augItem (H : FOK F) {x : Str} {ds : List D} {e i : Expr} {a b : Int} {iv : Nat} {px pa pos : Pos} {ρ' : Rho} (hA : Rm k A) (hm : (x, .own ds) ∈ ρ) (hi : EV C k F ρ i (.int iv)) (hget : ds[iv]? = some (.int a)) (he : EV C k F ρ e (.int b)) (hsz : ds.length < 2 ^ 24) (hρ : ∀ p ∈ ρ', p ∈ ρ ∧ p.2.isOwn = false)
    (h : XS prog C A F ((x, .own (ds.set iv (.int (a + b)))) :: ρ') rest Q E) (ha : ∀ ov iv new, augStore i ov iv new = (do holding [new, ov, iv] (PySem.setItem ov iv new); release [new, ov, iv] []; pure .next) := by intro _ _ _; rfl) (hd : (x == ("__debug__" : Str)) = false := by decide +kernel) :
    XS prog C A F ρ (.AugAssign (.Subscript (.Name x px) i pa) .Add e pos :: rest) Q E := by
  intro s hs0
  refine wpAny_execs_cons (wpAny_AugAssign_Subscript_any ?_ ha)
  have hlt := (List.getElem?_eq_some_iff.mp hget).1
  obtain ⟨l, vs, n, m, w, e1, r, nn, a1, hh, nt, hL⟩ := hs0.ownAt hm
  refine At.load H nn a1 hd (hi.run _ _ _ _ _ hA hs0 fun v2 s2 y2 r2 => ?_)
  obtain ⟨t, rfl⟩ := r2.int_i
  have hs2 := hs0.step y2 H.nt
  have e2 := y2.keep l _ nt e1
  have hl := r.length
  obtain ⟨v, hv, rv⟩ := r.get hget
  obtain ⟨t1, rfl⟩ := rv.int_i
  refine wpAny_getItem_list (isList_of e2) (by omega) (by omega) (by rw [List.getElem?_toArray, Int.toNat_natCast]; exact hv) ?_
  refine he.run _ _ _ _ _ hA hs2 fun v4 s4 y4 r4 => ?_
  obtain ⟨t4, rfl⟩ := r4.int_i
  refine P.iadd_int ?_
  have y24 : Step s2 { s4 with toks := s4.toks + 1 } := y4.trans Step.tok
  have hs4 := hs2.step y24 H.nt
  have e4 := y24.keep l _ nt e2
  refine ki_setAt (n := n) e4 (by omega) (by omega) (by rw [List.size_toArray]; omega) (h _ ?_)
  generalize hv : Value.int (a + b) _ = vN
  have e3 : ∃ n', (s4.heap.update l (Obj.mapSeq (·.setIfInBounds (iv : Int).toNat vN))).get? l = some (listO (vs.set iv vN) n') := ⟨_, by have := IsL.update (n := n) e4 (·.setIfInBounds (iv : Int).toNat vN); rw [Int.toNat_natCast] at this ⊢; rw [show (vs.toArray.setIfInBounds iv vN) = (vs.set iv vN).toArray by simp] at this; exact this⟩
  obtain ⟨n', e3⟩ := e3
  have y04 := y2.trans y24
  exact St.mut H hs4 w e4 (ns_step y04 hs0.ok.tabs nn) (a1.step hs0.ok.tabs y04) (fun p hp => (hh p hp).step hs0.ok y04) (Heap.SameBut.update ..) e3 ((r.mono (hs0.ok.vis y04)).set (hv ▸ .int _ _) iv) hρ
end
section
variable {C : Base} {k : Nat} {F : Fn} {ρ : Rho} {prog : Program} {A : Around} {Q : Flow → Shared → Prop} {E : Value → Shared → Prop} {rest : List Stmt} {Mu : Addr → Prop}
theorem T2.isNb {b : Bool} : T2 C k Mu (.bool b) .none (compareOp .Is) (.bool false) := by
  refine T2.mk ?_
  intro prog A s v1 v2 Q E hA ho h1 h2 hQ
  obtain rfl := h1.bool_i
  obtain rfl := h2.none_i
  exact is_bool_none (hQ _ _ (Step.refl _) (.bool _))
noncomputable def rsL (k i : Nat) : List Int := (List.range (i + 1)).map fun j => ((2 ^ j % k : Nat) : Int)
theorem rsL_split (k i : Nat) : (rsL k i).map D.int = ((List.range i).map fun j => D.int ((2 ^ j % k : Nat) : Int)) ++ [.int ((2 ^ i % k : Nat) : Int)] := by
  unfold rsL
  rw [List.range_succ, List.map_append, List.map_append, List.map_map]; rfl
theorem rsL_succ (k i : Nat) : (rsL k (i + 1)).map D.int = (rsL k i).map D.int ++ [.int ((2 ^ (i + 1) % k : Nat) : Int)] := by
  rw [rsL_split]
  unfold rsL
  rw [List.map_map]; rfl
theorem rsL_len (k i : Nat) : ((rsL k i).map D.int).length = i + 1 := by unfold rsL; simp
noncomputable def sgn (s t f : Nat) : List Nat := if f = 0 then [] else if f = 1 then [s] else [t]
theorem sgn_len (s t f : Nat) : (sgn s t f).length ≤ 1 := by unfold sgn; split; exact Nat.zero_le _; split <;> exact Nat.le_refl _
theorem sgn_get (s t f : Nat) (h : f < 3) : ([[], [s], [t]] : List (List Nat))[f]? = some (sgn s t f) := by
  match f, h with
  | 0, _ => rfl
  | 1, _ => rfl
  | 2, _ => rfl
noncomputable def sgns (s t n1 nf : Nat) : List (List Nat) := (List.range nf).map fun j => sgn s t (n1 / 3 ^ j % 3)
noncomputable def txt0 (h s t n1 nf : Nat) : List Nat := [h] ++ (sgns s t n1 nf).flatten
noncomputable def txtI (h s t n1 nf i : Nat) : List Nat := txt0 h s t n1 nf ++ List.replicate i s
theorem txtI_succ (h s t n1 nf i : Nat) : txtI h s t n1 nf i ++ [s] = txtI h s t n1 nf (i + 1) := by
  unfold txtI
  rw [List.append_assoc, List.replicate_succ']
theorem join_flat : ∀ ds : List (List Nat), (Txt.join (mkS []) (ds.map mkS)).cps.toList = ds.flatten := by
  intro ds
  have e : ∀ ds : List (List Nat), Str.join (mkS []) (ds.map mkS) = mkS ds.flatten := by
    intro ds
    induction ds with
    | nil => rfl
    | cons a r ih =>
      cases r with
      | nil => show mkS a = _; simp
      | cons b r =>
        show mkS a ++ mkS [] ++ Str.join (mkS []) ((b :: r).map mkS) = _
        rw [ih, mkS_append, mkS_append]; simp
  unfold Txt.join
  rw [StrLaws.glued_eq_join, e]
theorem sum_le1 : ∀ l : List (List Nat), (∀ a ∈ l, a.length ≤ 1) → (l.map List.length).sum ≤ l.length
  | [], _ => Nat.le_refl _
  | a :: r, h => by
    have h1 := h a (List.mem_cons_self ..)
    have h2 := sum_le1 r fun b hb => h b (List.mem_cons_of_mem _ hb)
    rw [List.map_cons, List.sum_cons, List.length_cons]; omega
theorem sgns_le (s t n1 nf : Nat) : ∀ a ∈ sgns s t n1 nf, a.length ≤ 1 := fun a ha => by
  obtain ⟨j, _, rfl⟩ := List.mem_map.mp ha
  exact sgn_len _ _ _
theorem sgns_length (s t n1 nf : Nat) : (sgns s t n1 nf).length = nf := by unfold sgns; simp
theorem txtI_len (h s t n1 nf i : Nat) : (txtI h s t n1 nf i).length ≤ 1 + nf + i := by
  unfold txtI txt0
  have := sum_le1 _ (sgns_le s t n1 nf)
  rw [sgns_length] at this
  rw [List.length_append, List.length_append, List.length_flatten, List.length_replicate, List.length_singleton]; omega
noncomputable abbrev lawB (h s t k w x : Nat) (da : Addr) (dob : Obj) (nn : List Int) : Rho := [("x", .int x), ("k", .int k), ("w", .int w), ("head", .str [h]), ("stroke", .str [s]), ("knot", .str [t]), ("codes", .obj da [(da, dob)]), ("numbers", .list (nn.map .int))]
variable {F₀ : Fn}
theorem law_b (G : PGD C) (S : Sub F₀ F) (hO : ∀ a, F₀.own a → a = F₀.env.locals ∨ ∃ x, F₀.env.cells.lookup x = some a) (hsc : F.env.scope = sc (stmtAt 73)) (hcs : ∀ x, (sc (stmtAt 73)).names.lookup x = some .cell → ∃ c, CellOK F x c) (hA : Rm 22 A) (hfr : A.frames = some [F.env]) (hF : F.env.frame = some F.env.locals)
    {h s t k w x m q n0 n1 n2 n3 nf i0 : Nat} {pw : List Int} {cd : Nat → Int} {ps : List (Int × Int)} {T : Nat → List Nat} {N : Nat → Int} {text : List Nat} (ht : text = txtI h s t n1 nf i0)
    (L : LD text h s t k w x cd ps (octsL (unpair ps ++ [64 * (x : Int) + k])) (proofL n3 (octsL (unpair ps ++ [64 * (x : Int) + k]))) T N) {da : Addr} {dob : Obj} {f : Str → Option Value} (hd : StrDict C.w dob f) (hf : ∀ c ∈ text, ∃ t, f (mkS [c]) = some (.int (cd c) t))
    (hk3 : 3 ≤ k) (hm : ((List.range 12).filter (okM (text.count s + k * text.count t) k)) ≠ [] ∧ minI (((List.range 12).filter (okM (text.count s + k * text.count t) k)).map fun (j : Nat) => (j : Int)) = m) (hm12 : m ≤ 12) (hq : (2 : Int) ^ m - (text.count s + k * text.count t : Nat) = k * q) (hq12 : q ≤ 1024)
    (hst : stepsL text t (text.count s + k * text.count t) m q = unpair ps) (bst : ∀ i ∈ unpair ps ++ [64 * (x : Int) + k], Bz 40 i)
    (i3 : i0 ≤ 3) (hnf : nf = if k == 3 then 5 else 3) (hpw : rsL k pw.length = pw ++ [1]) (hpl : pw.length ≤ 10)
    (hE : ∀ i, i ≤ i0 → (pats (txtI h s t n1 nf i) k h s t).map (fun p => em p (txtI h s t n1 nf i)) = dues (txtI h s t n1 nf i) k s t)
    (hV : ∀ i, i ≤ i0 → ∀ one ∈ afters (txtI h s t n1 nf i) k s t, (pw ++ [1]).contains ((((one.count s : Nat) : Int)).fmod k) = decide (i = i0)) :
    XS prog C A F (("powers", .list (pw.map .int)) :: ("rests", .own [.int 1]) :: lawB h s t k w x da dob [n0, n1, n2, n3]) ((bd (stmtAt 73)).drop 8) (Ret C F₀ (.bool true)) NoE := by
  have G' := G.toPG
  have H := S.fok
  have hk := L.hk
  have hkI : (k : Int) ≠ 0 := by omega
  have lpw : (pw.map D.int).length = pw.length := List.length_map _
  have bk : Bz 4 (k : Int) := .lt (by omega) (by omega)
  refine XS.for H hA (ds := pw.map .int) (ρs := fun i => ("rests", .own ((rsL k i).map .int)) :: ("powers", .list (pw.map .int)) :: lawB h s t k w x da dob [n0, n1, n2, n3]) (ρ' := ("rests", .own ((rsL k pw.length).map .int)) :: ("powers", .list (pw.map .int)) :: lawB h s t k w x da dob [n0, n1, n2, n3]) (dr := .bool true) (SrcE.list (by walk_at "ev")) (by
      have e : (rsL k 0).map D.int = [.int 1] := by
        show [D.int ((2 ^ 0 % k : Nat) : Int)] = _
        rw [Nat.mod_eq_of_lt (show 2 ^ 0 < k by show 1 < k; omega)]; rfl
      rw [e]; walk_at "sub") (fun i d hd => ?_) (fun p hp => by rw [lpw]; exact hp) (Ret.up S) ?_
  · refine ⟨("turn", d) :: ("rests", .own ((rsL k i).map .int)) :: ("powers", .list (pw.map .int)) :: lawB h s t k w x da dob [n0, n1, n2, n3], fun F₂ L => Asg.name L.fok (by rw [L.env]; walk_at "kd") (by walk_at "ne"), fun F₂ L => ?_⟩
    have H₂ := L.fok
    have hsc₂ : F₂.env.scope = sc (stmtAt 73) := by rw [L.env]; exact hsc
    have hi : i < pw.length := by have := (List.getElem?_eq_some_iff.mp hd).1; omega
    have p2 : (2 : Int) * ((2 ^ i % k : Nat) : Int) = ((2 * (2 ^ i % k) : Nat) : Int) := by omega
    have hv : ((2 : Int) * ((2 ^ i % k : Nat) : Int)).fmod k = ((2 ^ (i + 1) % k : Nat) : Int) := by
      rw [Int.fmod_eq_emod_of_nonneg _ (by omega), p2, ← Int.natCast_emod, Nat.pow_succ, Nat.mul_comm (2 ^ i) 2, Nat.mul_mod_mod]
    have hlt : 2 ^ i % k < k := Nat.mod_lt _ (by omega)
    refine XS.append (k := 22) H₂ (x := "rests") (ds := (rsL k i).map .int) (d := .int ((2 ^ (i + 1) % k : Nat) : Int)) (ρ' := ("powers", .list (pw.map .int)) :: lawB h s t k w x da dob [n0, n1, n2, n3]) hA (by walk_at "mem") (EV.view H₂ (x := "rests") (ds := (rsL k i).map .int) (ρ₂ := ("rests", .list ((rsL k i).map .int)) :: lawB h s t k w x da dob [n0, n1, n2, n3]) (by walk_at "mem") rfl (by walk_at "frz") fun F₃ H₃ he => ?_) (by rw [rsL_len]; omega) (by walk_at "kd") (by walk_at "subown") ?_
    · have hsc₃ : F₃.env.scope = sc (stmtAt 73) := by rw [he]; exact hsc₂
      exact EV.item (T := "tuple") H₃ (idm G' H₃ (by walk_at "kd") (by decide) hkI (bk.mono (by decide)) ((Bz.lt (n := 5) (by omega) (by omega)).mono (by decide)) (EVs.cons H₃ (EV.bin H₃ (by walk_at "ev") (EV.item (T := "list") H₃ ((EV.name H₃ (by walk_at "mem")).toL (rsL_split k i)) (by walk_at "ev") (T2.lastl (by simp; omega)) rfl) (T2.mulz (m := 3) (n := 5) (.lt (by decide) (by decide)) (.lt (by omega) (by omega)) rfl)) (EVs.cons H₃ (by walk_at "ev") EVs.nil)) ⟨rfl, hv⟩) (by walk_at "ev") (T2.idxt (by decide) (by decide) rfl) rfl
    · rw [← rsL_succ]
      exact XS.nil fun s hs => hs
  rw [hpw]
  refine XS.iff (b := false) H hA (TT.view H (x := "rests") (ds := (pw ++ [1]).map .int) (ρ₂ := ("rests", .list ((pw ++ [1]).map .int)) :: ("powers", .list (pw.map .int)) :: lawB h s t k w x da dob [n0, n1, n2, n3]) (by walk_at "mem") (by walk_at "frz") fun F₃ H₃ he => ?_) (fun hb => absurd hb (by decide)) (fun _ => ?_)
  · exact TT.cmp H₃ (by walk_at "ev") (EV.toL (EV.bin H₃ (by walk_at "ev") (EV.lst H₃ (EVs.cons H₃ (EV.int 1) EVs.nil) (Nat.le_of_ble_eq_true rfl)) (T2.addl (by simp; omega))) (by rw [List.map_append]; rfl)) (T2.ner ((CN.list (n := 0) (CN.map fun i _ => CN.int i)).cmp))
  refine XS.thenn (ρ' := ("rests", .own ((pw ++ [1]).map .int)) :: lawB h s t k w x da dob [n0, n1, n2, n3]) ?_ (by walk_at "sub")
  refine XS.freezeK S hO (x := "rests") (ρ₂ := ("rests", .list ((pw ++ [1]).map .int)) :: lawB h s t k w x da dob [n0, n1, n2, n3]) (List.Mem.head _) (by walk_at "frz") fun F₂ S₂ up => ?_
  have ee : F₂.env = F.env := S₂.env.trans S.env.symm
  have H₂ := S₂.fok
  have hsc₂ : F₂.env.scope = sc (stmtAt 73) := by rw [ee]; exact hsc
  have hcs₂ : ∀ x, (sc (stmtAt 73)).names.lookup x = some .cell → ∃ c, CellOK F₂ x c := fun x hx => let ⟨c, K⟩ := hcs x hx; ⟨c, up _ _ K⟩
  have hnf5 : nf ≤ 5 := by rw [hnf]; split <;> decide
  refine XS.asg (d := .str (txtI h s t n1 nf 0)) H₂ hA (EV.toS (EV.bin H₂ (by walk_at "ev") (EV.toS (EV.meth H₂ (EV.str str_empty) GetM.join (EVs.cons H₂
      (EV.toL (b := (sgns s t n1 nf).map .str) (EV.lcomp H₂ (ds := (List.range nf).map fun (j : Nat) => .int (j : Int)) (SrcE.toL (SrcE.range (EV.callT H₂ (by walk_at "kd") (by walk_at "mem") (EVs.cons H₂ (EV.ifx H₂ (b := (k : Int) == 3) (d := .int nf) (TT.cmp H₂ (by walk_at "ev") (by walk_at "ev") T2.eqi) (fun hb => ?i1) (fun hb => ?i2)) EVs.nil) TL.range1) (rng_small (n := nf) (by omega) (by decide) (by decide) (by omega) (by omega)) (rng_size (n := nf) (by omega))) (rng_nat nf)) (Sees.of (ρc := [("stroke", .str [s]), ("knot", .str [t]), ("numbers", .list (([n0, n1, n2, n3] : List Int).map .int))]) hsc₂ hcs₂ (by decide +kernel) (by decide +kernel) (by kernel_rfl) (by walk_at "sub")) (by simp; omega)
        fun F₃ IC => CL.all (fun (j : Nat) => .int j) (List.range nf) (fun (j : Nat) => .str (sgn s t (n1 / 3 ^ j % 3))) IC (by decide +kernel) (by kernel_rfl) fun j hj F₄ IC₄ H₄ => ?g) (by unfold sgns; rw [List.map_map]; rfl)) EVs.nil) (TL.join (by
          have := sum_le1 _ (sgns_le s t n1 nf)
          rw [sgns_length] at this
          simp; omega))) (join_flat _)) (T2.adds (by
            have := sum_le1 _ (sgns_le s t n1 nf)
            rw [sgns_length] at this
            rw [sizeLine_eq, List.length_flatten, List.length_singleton]; omega))) (by unfold txtI txt0; simp)) (by walk_at "kd") (by walk_at "ne") ?_
  case i1 =>
    have e : nf = 5 := by rw [hnf]; have : k = 3 := by have := of_decide_eq_true hb; omega
                          rw [this]; rfl
    rw [e]; exact EV.int 5
  case i2 =>
    have e : nf = 3 := by rw [hnf]; have : ¬ k = 3 := by have := of_decide_eq_false hb; omega
                          simp [this]
    rw [e]; exact EV.int 3
  case g =>
    have hj5 : j < 5 := by have := List.mem_range.mp hj; omega
    have hp : ((3 : Int) ^ j).natAbs < 2 ^ 200 := by
      rw [Int.natAbs_pow]
      exact Nat.lt_of_le_of_lt (Nat.pow_le_pow_right (by decide) (Nat.le_of_lt hj5)) (by decide)
    have hi : ((n1 : Int).fdiv (3 ^ j)).fmod 3 = ((n1 / 3 ^ j % 3 : Nat) : Int) := by
      rw [Int.fdiv_eq_ediv_of_nonneg _ (Int.le_of_lt (Int.pow_pos (by decide))), Int.fmod_eq_emod_of_nonneg _ (by decide)]
      rw [Int.natCast_emod, Int.natCast_ediv, Int.natCast_pow]; rfl
    have hl3 : n1 / 3 ^ j % 3 < 3 := Nat.mod_lt _ (by decide)
    exact EV.item (T := "list") H₄ (EV.lst (ds := ([[], [s], [t]] : List (List Nat)).map .str) H₄ (EVs.cons H₄ (EV.str str_empty) (EVs.cons H₄ (by walk_at "ev") (EVs.cons H₄ (by walk_at "ev") EVs.nil))) (Nat.le_of_ble_eq_true rfl)) (EV.toI (EV.bin H₄ (EV.bin H₄ (EV.item (T := "list") H₄ (by walk_at "ev") (by walk_at "ev") (T2.idxl (d := .int n1) (by decide) (by decide) rfl) rfl) (EV.bin H₄ (by walk_at "ev") (by walk_at "ev") (T2.powk (a := 3) (by decide) (by omega))) (T2.fdiv (Int.pow_ne_zero (by decide)) (noPyB hp))) (by walk_at "ev") (T2.fmod (by decide))) hi) (T2.idxl (by omega) (by omega) (by rw [Int.toNat_natCast, List.getElem?_map, sgn_get _ _ _ hl3]; rfl)) rfl
  refine XS.forI H₂ (ds := (List.range 4).map fun (j : Nat) => .int (j : Int)) (ρs := fun i => ("text", .str (txtI h s t n1 nf i)) :: ("rests", .list ((pw ++ [1]).map .int)) :: lawB h s t k w x da dob [n0, n1, n2, n3]) (fun i => i ≤ i0) (fun ρ' => ρ' = lawC text h s t k w x da dob [n0, n1, n2, n3]) (fun _ => False) hA (SrcE.toL (SrcE.range (EV.callT H₂ (by walk_at "kd") (by walk_at "mem") (by walk_at "evs") TL.range1) (rng_small (n := 4) rfl (by decide) (by decide) (by decide) (by decide)) (rng_size (n := 4) rfl)) (rng_nat 4)) (by walk_at "sub") (Nat.zero_le _) (fun i d hd hi => ?_) (fun _ _ _ hf => hf.elim) (fun ρ' e => ?_) (fun hl => by simp at hl; omega)
  · refine ⟨("more", d) :: ("text", .str (txtI h s t n1 nf i)) :: ("rests", .list ((pw ++ [1]).map .int)) :: lawB h s t k w x da dob [n0, n1, n2, n3], fun F₃ L => Asg.name L.fok (by rw [L.env]; walk_at "kd") (by walk_at "ne"), fun F₃ L => ?_⟩
    have H₃ := L.fok
    have hsc₃ : F₃.env.scope = sc (stmtAt 73) := by rw [L.env]; exact hsc₂
    have hlen := txtI_len h s t n1 nf i
    have h0 : txtI h s t n1 nf i ≠ [] := by unfold txtI txt0; simp
    refine XS.asg (d := .bool (decide (i = i0))) H₃ hA (EV.callF H₃ (by walk_at "kd") (G.mg ("_law_kept", 106) (by decide)) (G.fd (106, 70, 105) (by decide)).choose_spec (by walk_at "evs") (kept_spec G' h0 (Sz.mk (by omega)) hk hk3 (hE i hi) (hV i hi))) (by walk_at "kd") (by walk_at "ne") ?_
    refine XS.iff (b := false) H₃ hA (TT.cmp H₃ (by walk_at "ev") (by walk_at "ev") T2.isNb) (fun hb => absurd hb (by decide)) (fun _ => ?_)
    refine XS.thenn (ρ' := ("good", .bool (decide (i = i0))) :: ("text", .str (txtI h s t n1 nf i)) :: ("rests", .list ((pw ++ [1]).map .int)) :: lawB h s t k w x da dob [n0, n1, n2, n3]) ?_ (by walk_at "sub")
    refine XS.iff (b := decide (i = i0)) H₃ hA (by walk_at "tt") (fun hb => ?_) (fun hb => ?_)
    · have e : i = i0 := of_decide_eq_true hb
      exact XS.brk fun s hs => ⟨_, rfl, hs.weaken (by rw [ht, ← e]; walk_at "sub")⟩
    · have e : i ≠ i0 := of_decide_eq_false hb
      refine XS.thenn (ρ' := ("text", .str (txtI h s t n1 nf i)) :: ("rests", .list ((pw ++ [1]).map .int)) :: lawB h s t k w x da dob [n0, n1, n2, n3]) ?_ (by walk_at "sub")
      refine XS.asgW (d := .str (txtI h s t n1 nf (i + 1))) (ρ₀ := ("rests", .list ((pw ++ [1]).map .int)) :: lawB h s t k w x da dob [n0, n1, n2, n3]) H₃ hA (EV.toS (EV.bin H₃ (by walk_at "ev") (by walk_at "ev") (T2.adds (by rw [sizeLine_eq, List.length_singleton]; omega))) (txtI_succ ..)) (by walk_at "kd") (by walk_at "subne") ?_
      exact XS.nil fun s hs => ⟨by omega, hs⟩
  · rw [e]
    have h0 : text ≠ [] := by rw [ht]; unfold txtI txt0; simp
    exact law_c G S₂ hsc₂ hcs₂ hA (by rw [ee]; exact hfr) (by rw [ee]; exact hF) L hd hf h0 (by omega) hm hm12 hq hq12 hst bst
end
noncomputable def poolL : List Nat := [40, 41, 91, 93, 58, 44, 59, 43, 45, 42, 47, 124, 38, 60, 62, 61, 37, 123, 125, 126, 94, 64, 33]
theorem str_pool : Str.ofString "()[]:,;+-*/|&<>=%{}~^@!" = mkS poolL := by decide +kernel
noncomputable def codeOf (c : Nat) : Int := (tokList.lookup c).getD 0
noncomputable def codeD : List D := tokList.map fun p => .tup [.str [p.1], .int p.2]
theorem codeD_last : ∀ p ∈ tokList, lastOf codeD p.1 = some p.2 := by
  have : (tokList.all fun p => lastOf codeD p.1 == some p.2) = true := by decide +kernel
  intro p hp
  exact eq_of_beq (List.all_eq_true.mp this p hp)
noncomputable def numsL (xs : List Int) : Nat → List Int
  | 0 => [0, 16, 7864, 1]
  | i + 1 => (numsL xs i).set (i % 4) ((numsL xs i).getD (i % 4) 0 + (xs.getD i 0).fmod (10 ^ 6))
theorem numsL_len (xs : List Int) : ∀ i, (numsL xs i).length = 4
  | 0 => rfl
  | i + 1 => by rw [numsL, List.length_set, numsL_len xs i]
theorem numsL_bd (xs : List Int) : ∀ i, ∀ a ∈ numsL xs i, 0 ≤ a ∧ a ≤ 7864 + i * 10 ^ 6
  | 0 => fun a ha => by
    unfold numsL at ha
    simp only [List.mem_cons, List.not_mem_nil, or_false] at ha
    omega
  | i + 1 => fun a ha => by
    have ih := numsL_bd xs i
    have hx : 0 ≤ (xs.getD i 0).fmod (10 ^ 6) ∧ (xs.getD i 0).fmod (10 ^ 6) < 10 ^ 6 := by
      rw [Int.fmod_eq_emod_of_nonneg _ (by decide)]; omega
    have hg : 0 ≤ (numsL xs i).getD (i % 4) 0 ∧ (numsL xs i).getD (i % 4) 0 ≤ 7864 + i * 10 ^ 6 := by
      have hlt : i % 4 < (numsL xs i).length := by rw [numsL_len]; omega
      have := ih _ (List.getElem_mem hlt)
      rw [List.getD_eq_getElem?_getD, List.getElem?_eq_getElem hlt]; exact this
    rw [numsL] at ha
    rcases List.mem_or_eq_of_mem_set ha with h | h
    · have := ih a h; omega
    · omega
structure FX (n0 n1 n2 n3 k h s t nf i0 m q : Nat) (pw : List Int) (ps : List (Int × Int)) (T : Nat → List Nat) (N : Nat → Int) : Prop where
  ek : ([3, 5, 7] : List Nat)[n0 % 3]? = some k
  ep : (k = 3 ∧ pw = [1, 2]) ∨ (k = 5 ∧ pw = [1, 2, 4, 3]) ∨ (k = 7 ∧ pw = [1, 2, 4])
  e1 : poolL[n2 % 23]? = some h
  e2 : (poolL.filter (· != h))[n2 / 23 % 22]? = some s
  e3 : ((poolL.filter (· != h)).filter (· != s))[n2 / 506 % 21]? = some t
  ld : LD (txtI h s t n1 nf i0) h s t k (6 + n0 / 3 % 4) n2 codeOf ps (octsL (unpair ps ++ [64 * (n2 : Int) + k])) (proofL n3 (octsL (unpair ps ++ [64 * (n2 : Int) + k]))) T N
  tk : ∀ c ∈ txtI h s t n1 nf i0, (c, codeOf c) ∈ tokList
  hm : ((List.range 12).filter (okM ((txtI h s t n1 nf i0).count s + k * (txtI h s t n1 nf i0).count t) k)) ≠ [] ∧ minI (((List.range 12).filter (okM ((txtI h s t n1 nf i0).count s + k * (txtI h s t n1 nf i0).count t) k)).map fun (j : Nat) => (j : Int)) = m
  hm12 : m ≤ 12
  hq : (2 : Int) ^ m - ((txtI h s t n1 nf i0).count s + k * (txtI h s t n1 nf i0).count t : Nat) = k * q
  hq12 : q ≤ 1024
  hst : stepsL (txtI h s t n1 nf i0) t ((txtI h s t n1 nf i0).count s + k * (txtI h s t n1 nf i0).count t) m q = unpair ps
  bst : ∀ i ∈ unpair ps ++ [64 * (n2 : Int) + k], Bz 40 i
  i3 : i0 ≤ 3
  hnf : nf = if k == 3 then 5 else 3
  hpw : rsL k pw.length = pw ++ [1]
  hE : ∀ i, i ≤ i0 → (pats (txtI h s t n1 nf i) k h s t).map (fun p => em p (txtI h s t n1 nf i)) = dues (txtI h s t n1 nf i) k s t
  hV : ∀ i, i ≤ i0 → ∀ one ∈ afters (txtI h s t n1 nf i) k s t, (pw ++ [1]).contains ((((one.count s : Nat) : Int)).fmod k) = decide (i = i0)
noncomputable def Facts (n0 n1 n2 n3 : Nat) : Prop := ∃ k h s t nf i0 m q pw ps T N, FX n0 n1 n2 n3 k h s t nf i0 m q pw ps T N
section
variable {C : Base} {k : Nat} {F : Fn} {ρ : Rho} {prog : Program} {A : Around} {Q : Flow → Shared → Prop} {E : Value → Shared → Prop} {rest : List Stmt} {Mu : Addr → Prop} {F₀ : Fn}
@[irreducible] noncomputable def XB (prog : Program) (C : Base) (A : Around) (F : Fn) (ρ : Rho) (sts : List Stmt) (Q : Flow → Shared → Prop) (E : Value → Shared → Prop) : Prop := XS prog C A F ρ sts Q E
theorem XB.mk {sts : List Stmt} (h : XS prog C A F ρ sts Q E) : XB prog C A F ρ sts Q E := by unfold XB; exact h
theorem XB.powStart {F₀ : Fn} (S : Sub F₀ F) {x y : Str} {ts : List Expr} {n : Nat} {tp pos lp : Pos} {m2 : Nat} {tp2 : Pos} {e : Expr} {es : List Expr} {ds ys : List D} (hA : Rm k A) (he : EV C k F ρ e (.list ds)) (hes : EVs C k F ρ es ys) (hys : ys.all D.flat = true) (hyl : ys.length ≤ 4096) (kx : F.env.kindOf x = some .local) (ky : F.env.kindOf y = some .local) (hx : ∀ p ∈ ρ, p.1 ≠ x) (hy : ∀ p ∈ ρ, p.1 ≠ y) (hxy : y ≠ x)
    (h : ∀ F₂, Sub F₀ F₂ → (∀ y c, CellOK F y c → CellOK F₂ y c) → XB prog C A F₂ ((x, .list ds) :: (y, .own ys) :: ρ) rest Q E)
    (hs : swapsWithSole [.Tuple ts n tp] (.Tuple [e, .List es lp] m2 tp2) pos.line F.env = pure false) (hw : swappedStores [.Tuple ts n tp] (.Tuple [e, .List es lp] m2 tp2) F.env = pure (some [x, y]))
    (h1 : starEach [e, .List es lp] F.env = (false, eval e F.env) :: starEach [.List es lp] F.env := by rfl) (h2 : starEach [.List es lp] F.env = (false, eval (.List es lp) F.env) :: starEach [] F.env := by rfl) :
    XB prog C A F ρ (.Assign [.Tuple ts n tp] (.Tuple [e, .List es lp] m2 tp2) pos :: rest) Q E := by
  unfold XB at *
  exact XS.powStart S hA he hes hys hyl kx ky hx hy hxy h hs hw h1 h2
theorem XB.weaken {sts : List Stmt} {ρ' : Rho} (h : XB prog C A F ρ' sts Q E) (hw : ∀ p ∈ ρ', p ∈ ρ) : XB prog C A F ρ sts Q E := by unfold XB at *; exact XS.weaken h hw
theorem XB.asgD {prog : Program} {A : Around} {Q : Flow → Shared → Prop} {E : Value → Shared → Prop} {rest : List Stmt} {kx vx target iter : Expr} {scope : Scope} {pos : Pos} {ds out : List D} {ρc : Rho} {y : Str} {cy : Addr} {py spos : Pos} {ifs : List Expr} (H : FOK F) (hA : Rm k A) (K : CellOK F y cy) (hsrc : SrcE C k F ρ iter target ds) (hsee : Sees F scope ρ ρc) (hN : out.length ≤ 1000)
    (hL : ∀ F₂, InComp F F₂ scope → CL C k (fun F ρ y => ∃ c i, y = .tup [.str [c], .int i] ∧ EV C k F ρ kx (.str [c]) ∧ EV C k F ρ vx (.int i)) F₂ ρc target ifs [] ds out) (hx : ∀ p ∈ ρ, p.1 ≠ y)
    (h : ∀ a o f, StrDict C.w o f → (∀ c i, lastOf out c = some i → ∃ t, f (mkS [c]) = some (.int i t)) → XB prog C A F ((y, .obj a [(a, o)]) :: ρ) rest Q E)
    (hsw : swapsWith (.DictComp kx vx [⟨target, iter, ifs, 0⟩] scope pos) (some (.Name y py)) spos.line F.env = pure false) (hfs : ∀ x, foldedSetIterable iter F.env x = pure x := by intro _; rfl) :
    XS prog C A F ρ (.Assign [.Name y py] (.DictComp kx vx [⟨target, iter, ifs, 0⟩] scope pos) spos :: rest) Q E := by
  unfold XB at h
  exact XS.asgD H hA K hsrc hsee hN hL hx h hsw hfs
theorem star_sub (e i : Expr) (p : Pos) (rest : List Expr) (env : Env) : starEach (.Subscript e i p :: rest) env = (false, eval (.Subscript e i p) env) :: starEach rest env := rfl
theorem star_list (es : List Expr) (p : Pos) (rest : List Expr) (env : Env) : starEach (.List es p :: rest) env = (false, eval (.List es p) env) :: starEach rest env := rfl
theorem law_a7 (G : PGD C) (S : Sub F₀ F) (hO : ∀ a, F₀.own a → a = F₀.env.locals ∨ ∃ x, F₀.env.cells.lookup x = some a) (hsc : F.env.scope = sc (stmtAt 73)) (hcs : ∀ x, (sc (stmtAt 73)).names.lookup x = some .cell → ∃ c, CellOK F x c) (hA : Rm 22 A) (hfr : A.frames = some [F.env]) (hF : F.env.frame = some F.env.locals)
    {n0 n1 n2 n3 k w h s t nf i0 m q : Nat} {pw : List Int} {ps : List (Int × Int)} {T : Nat → List Nat} {N : Nat → Int} (hw : 6 + n0 / 3 % 4 = w) (X : FX n0 n1 n2 n3 k h s t nf i0 m q pw ps T N) {da : Addr} {dob : Obj} {f : Str → Option Value} (hd : StrDict C.w dob f) (hf : ∀ c i, lastOf codeD c = some i → ∃ t, f (mkS [c]) = some (.int i t)) :
    XB prog C A F (lawB h s t k w n2 da dob [n0, n1, n2, n3]) ((bd (stmtAt 73)).drop 7) (Ret C F₀ (.bool true)) NoE := by
  have H := S.fok
  obtain ⟨ek, ep, e1, e2, e3, ld, tk, hm, hm12, hq, hq12, hst, bst, i3, hnf, hpw, hE, hV⟩ := X
  rw [hw] at ld
  have hpl : pw.length ≤ 4 := by rcases ep with ⟨_, e⟩ | ⟨_, e⟩ | ⟨_, e⟩ <;> rw [e] <;> decide
  have hk3 : 3 ≤ k := by rcases ep with ⟨e, _⟩ | ⟨e, _⟩ | ⟨e, _⟩ <;> omega
  refine XB.powStart S (x := "powers") (y := "rests") (ds := pw.map .int) (ys := [.int 1]) hA (EV.dict3 H (d1 := .list (([1, 2] : List Int).map .int)) (d2 := .list (([1, 2, 4, 3] : List Int).map .int)) (d3 := .list (([1, 2, 4] : List Int).map .int)) (fun F₂ H₂ _ => by walk_at "ev") (fun F₂ H₂ _ => by walk_at "ev") (fun F₂ H₂ _ => by walk_at "ev") (EV.name H (by walk_at "mem")) (by
      rcases ep with ⟨a, b⟩ | ⟨a, b⟩ | ⟨a, b⟩ <;> subst a <;> subst b
      · exact .inl ⟨rfl, rfl⟩
      · exact .inr (.inl ⟨rfl, rfl⟩)
      · exact .inr (.inr ⟨rfl, rfl⟩))) (EVs.cons H (EV.int 1) EVs.nil) rfl (by decide) (by walk_at "kd") (by walk_at "kd") (by walk_at "ne") (by walk_at "ne") (by decide +kernel) (fun F₂ S₂ up => ?_) (swA hsc fun L g c q f cd fr b => by kernel_rfl) (swB hsc fun L g c q f cd fr b => by kernel_rfl) (star_sub _ _ _ _ _) (star_list _ _ _ _)
  have ee : F₂.env = F.env := S₂.env.trans S.env.symm
  exact XB.mk (law_b G S₂ hO (by rw [ee]; exact hsc) (fun x hx => let ⟨c, K⟩ := hcs x hx; ⟨c, up _ _ K⟩) hA (by rw [ee]; exact hfr) (by rw [ee]; exact hF) rfl ld hd (fun c hc => hf c _ (codeD_last _ (tk c hc))) hk3 hm hm12 hq hq12 hst bst i3 hnf hpw (by omega) hE hV)
theorem law_a6 (G : PGD C) (S : Sub F₀ F) (hO : ∀ a, F₀.own a → a = F₀.env.locals ∨ ∃ x, F₀.env.cells.lookup x = some a) (hsc : F.env.scope = sc (stmtAt 73)) (hcs : ∀ x, (sc (stmtAt 73)).names.lookup x = some .cell → ∃ c, CellOK F x c) (hA : Rm 22 A) (hfr : A.frames = some [F.env]) (hF : F.env.frame = some F.env.locals)
    {n0 n1 n2 n3 k w h s t nf i0 m q : Nat} {pw : List Int} {ps : List (Int × Int)} {T : Nat → List Nat} {N : Nat → Int} (hw : 6 + n0 / 3 % 4 = w) (X : FX n0 n1 n2 n3 k h s t nf i0 m q pw ps T N) :
    XS prog C A F (("knot", .str [t]) :: ("stroke", .str [s]) :: ("head", .str [h]) :: ("x", .int n2) :: ("pool", .str poolL) :: ("w", .int w) :: ("k", .int k) :: [("numbers", .list (([n0, n1, n2, n3] : List Int).map .int))]) ((bd (stmtAt 73)).drop 6) (Ret C F₀ (.bool true)) NoE := by
  have H := S.fok
  obtain ⟨cc, Kc⟩ := hcs "codes" (by decide +kernel)
  refine XB.asgD (out := codeD) H hA Kc (SrcE.toL (b := codeD) (SrcE.zipS H (x := poolL) (es := (tokList.map (·.2)).map .int) (by walk_at "kd") (by decide) (by decide) (by walk_at "ev") (by walk_at "ev")) rfl) (Sees.of (ρc := []) hsc hcs (by decide +kernel) (by decide +kernel) (by kernel_rfl) sub_nil) (by decide) (fun F₂ IC => CL.allp (fun (p : Nat × Int) => .str [p.1]) (fun p => .int p.2) tokList (fun p => .tup [.str [p.1], .int p.2]) IC (by decide +kernel) (by decide +kernel) (by decide +kernel) rfl rfl fun p _ F₃ IC₃ H₃ => ⟨p.1, p.2, rfl, by walk_at "ev", by walk_at "ev"⟩) (by walk_at "ne") (fun da dob f hd hf => ?_) (swC hsc fun L g c q f cd fr b => by kernel_rfl)
  exact XB.weaken (law_a7 (prog := prog) (A := A) G S hO hsc hcs hA hfr hF hw X hd hf) (by walk_at "sub")
theorem law_a2 (G : PGD C) (S : Sub F₀ F) (hO : ∀ a, F₀.own a → a = F₀.env.locals ∨ ∃ x, F₀.env.cells.lookup x = some a) (hsc : F.env.scope = sc (stmtAt 73)) (hcs : ∀ x, (sc (stmtAt 73)).names.lookup x = some .cell → ∃ c, CellOK F x c) (hA : Rm 22 A) (hfr : A.frames = some [F.env]) (hF : F.env.frame = some F.env.locals)
    {n0 n1 n2 n3 k w h s t nf i0 m q : Nat} {pw : List Int} {ps : List (Int × Int)} {T : Nat → List Nat} {N : Nat → Int} (hw : 6 + n0 / 3 % 4 = w) (X : FX n0 n1 n2 n3 k h s t nf i0 m q pw ps T N) :
    XS prog C A F [("numbers", .list (([n0, n1, n2, n3] : List Int).map .int))] ((bd (stmtAt 73)).drop 2) (Ret C F₀ (.bool true)) NoE := by
  have H := S.fok
  obtain ⟨ck, Kk⟩ := hcs "k" (by decide +kernel)
  obtain ⟨cw, Kw⟩ := hcs "w" (by decide +kernel)
  have ek := X.ek
  have r3 : ((n0 : Int)).fmod 3 = ((n0 % 3 : Nat) : Int) := by rw [Int.fmod_eq_emod_of_nonneg _ (by decide)]; omega
  have w4 : (6 : Int) + (((n0 : Int)).fdiv 3).fmod 4 = (w : Int) := by rw [← hw, Int.fdiv_eq_ediv_of_nonneg _ (by decide), Int.fmod_eq_emod_of_nonneg _ (by decide)]; omega
  refine XS.asgT H hA (ds := [.int k, .int w, .str poolL, .int n2]) (ρ' := ("x", .int n2) :: ("pool", .str poolL) :: ("w", .int w) :: ("k", .int k) :: [("numbers", .list (([n0, n1, n2, n3] : List Int).map .int))]) (EV.tup H (EVs.cons H (EV.item (T := "tuple") H (EV.tup (ds := ([3, 5, 7] : List Nat).map fun (a : Nat) => .int a) H (EVs.cons H (EV.int 3) (EVs.cons H (EV.int 5) (EVs.cons H (EV.int 7) EVs.nil))) (Nat.le_of_ble_eq_true rfl)) (EV.toI (EV.bin H (EV.item (T := "list") H (by walk_at "ev") (by walk_at "ev") (T2.idxl (d := .int n0) (by decide) (by decide) rfl) rfl) (by walk_at "ev") (T2.fmod (by decide))) r3) (T2.idxt (by omega) (by omega) (by rw [Int.toNat_natCast, List.getElem?_map, ek]; rfl)) rfl)
      (EVs.cons H (EV.toI (EV.bin H (by walk_at "ev") (EV.bin H (EV.bin H (EV.item (T := "list") H (by walk_at "ev") (by walk_at "ev") (T2.idxl (d := .int n0) (by decide) (by decide) rfl) rfl) (by walk_at "ev") (T2.fdiv (by decide) (noPyB (by decide)))) (by walk_at "ev") (T2.fmod (by decide))) T2.add) w4)
      (EVs.cons H (EV.str str_pool) (EVs.cons H (EV.item (T := "list") H (by walk_at "ev") (by walk_at "ev") (T2.idxl (d := .int n2) (by decide) (by decide) rfl) rfl) EVs.nil)))) (Nat.le_of_ble_eq_true rfl))
    (AsgL.cons (fun F₂ L => Asg.cell L.fok (L.cell Kk) (by walk_at "ne")) rfl (AsgL.cons (fun F₂ L => Asg.cell L.fok (L.cell Kw) (by walk_at "ne")) rfl (AsgL.cons (fun F₂ L => Asg.name L.fok (by rw [L.env]; walk_at "kd") (by walk_at "ne")) rfl (AsgL.cons (fun F₂ L => Asg.name L.fok (by rw [L.env]; walk_at "kd") (by walk_at "ne")) rfl AsgL.nil)))) ?_ (swA hsc fun L g c q f cd fr b => by kernel_rfl) (swB hsc fun L g c q f cd fr b => by kernel_rfl)
  refine law_trio H hsc hcs (pl := poolL) (by walk_at "mem") (by walk_at "mem") (by decide) X.e1 X.e2 X.e3 (by kernel_rfl) (law_a6 G S hO hsc hcs hA hfr hF hw X)
end
noncomputable def AtL (x y : List Nat) (hi i : Nat) : Prop := i + y.length ≤ hi ∧ (x.drop i).take y.length = y
theorem at_iff {x y : List Nat} {hi i : Nat} : StrLaws.At (mkS x) (mkS y) hi i ↔ AtL x y hi i := by
  unfold StrLaws.At AtL
  rw [StrLaws.subAt_eq, mkS_len, beq_iff_eq]
theorem findIn_spec (x y : List Nat) (lo hi : Nat) : (findIn x y lo hi = -1 ∧ ∀ i, lo ≤ i → ¬ AtL x y hi i) ∨ ∃ a : Nat, findIn x y lo hi = a ∧ lo ≤ a ∧ AtL x y hi a ∧ ∀ k, lo ≤ k → k < a → ¬ AtL x y hi k := by
  unfold findIn
  rw [StrLaws.occ_eq]
  rcases StrLaws.occ_first (mkS x) (mkS y) hi 1 (Nat.le_refl 1) (List.range' lo (hi + 1 - lo)) lo (fun i h => by simp [List.mem_range'] at h; omega) with ⟨h0, hn⟩ | ⟨pre, a, post, e, h0, ha, hn⟩
  · refine .inl ⟨by rw [h0], fun i hi' h => hn i ?_ (at_iff.mpr h)⟩
    have := h.1
    rw [List.mem_range'_1]; omega
  · have hm : ∀ k, lo ≤ k → k < a → k ∈ pre := fun k h1 h2 => by
      have hL : hi + 1 - lo = pre.length + (post.length + 1) := by
        have := congrArg List.length e
        simpa using this
      have hlen : lo + pre.length = a := by
        have h1 : (List.range' lo (hi + 1 - lo))[pre.length]? = some a := by rw [e]; simp
        rw [List.getElem?_range' (by omega)] at h1
        simpa using h1
      have h3 : (List.range' lo (hi + 1 - lo))[k - lo]? = pre[k - lo]? := by rw [e, List.getElem?_append_left (by omega)]
      rw [List.getElem?_range' (by omega)] at h3
      have h4 : pre[k - lo]? = some k := by rw [← h3]; simp; omega
      exact List.mem_of_getElem? h4
    refine .inr ⟨a, ?_, ?_, at_iff.mp ha, fun k h1 h2 h => hn k (hm k h1 h2) (at_iff.mpr h)⟩
    · generalize (forIn (List.range' lo (hi + 1 - lo)) ((#[] : Array Nat), lo) (StrLaws.occBody (mkS x) (mkS y) hi 1)).run.fst = arr at h0
      have h1 : arr.toList[0]? = some a := by simpa using h0
      cases hL : arr.toList with
      | nil => rw [hL] at h1; cases h1
      | cons b t => rw [hL] at h1; simp at h1; rw [h1]
    · have : a ∈ List.range' lo (hi + 1 - lo) := by rw [e]; simp
      rw [List.mem_range'_1] at this; exact this.1
theorem findIn_nil {x : List Nat} {lo hi : Nat} (h : lo ≤ hi) : findIn x [] lo hi = lo := by
  have h0 : AtL x [] hi lo := ⟨by simpa using h, by simp⟩
  rcases findIn_spec x [] lo hi with ⟨_, hn⟩ | ⟨a, e, h1, h2, h3⟩
  · exact absurd h0 (hn lo (Nat.le_refl _))
  · rcases Nat.lt_or_ge lo a with q | q
    · exact absurd h0 (h3 lo (Nat.le_refl _) q)
    · rw [e, Nat.le_antisymm q h1]
theorem cont_iff {x y : List Nat} : Txt.contains (mkS x) (mkS y) = true ↔ ∃ i, AtL x y x.length i := by
  have := StrLaws.found_iff (mkS x) (mkS y)
  unfold Txt.contains
  rw [this]
  refine exists_congr fun i => ?_
  rw [mkS_len]
  exact (at_iff (hi := x.length))
theorem starts_iff {x y : List Nat} : Txt.startswith (mkS x) (mkS y) = true ↔ AtL x y x.length 0 := by
  unfold Txt.startswith AtL
  rw [Bool.and_eq_true, decide_eq_true_eq, StrLaws.subAt_eq, mkS_len, mkS_len, beq_iff_eq]
theorem ends_iff {x y : List Nat} : Txt.endswith (mkS x) (mkS y) = true ↔ y.length ≤ x.length ∧ (x.drop (x.length - y.length)).take y.length = y := by
  unfold Txt.endswith
  rw [Bool.and_eq_true, decide_eq_true_eq, StrLaws.subAt_eq, mkS_len, mkS_len, beq_iff_eq, Nat.zero_add]
noncomputable def glueD : List (List Nat) → List Nat
  | [] => []
  | [p] => p
  | p :: q :: r => p ++ dots ++ glueD (q :: r)
noncomputable def cutsD (a : Nat) : List (List Nat) → List Nat
  | p :: q :: r => (a + p.length) :: cutsD (a + p.length + 3) (q :: r)
  | _ => []
theorem at_get {x : List Nat} {hi k : Nat} (h : AtL x dots hi k) : x[k]? = some 46 := by
  have h2 := congrArg (·[0]?) h.2
  simp only [List.getElem?_take, List.getElem?_drop] at h2
  simpa using h2
theorem no_at {x pre p rest : List Nat} {hi k : Nat} (hx : x = pre ++ p ++ rest) (hp : 46 ∉ p) (h1 : pre.length ≤ k) (h2 : k < pre.length + p.length) : ¬ AtL x dots hi k := fun h => by
  have g := at_get h
  rw [hx, List.append_assoc, List.getElem?_append_right h1, List.getElem?_append_left (by omega)] at g
  exact hp (List.mem_of_getElem? g)
theorem chain_glue : ∀ (parts : List (List Nat)) (x pre : List Nat), (∀ p ∈ parts, 46 ∉ p) → x = pre ++ glueD parts →
    ∃ f, StrLaws.ChainG (mkS x) (mkS dots) x.length pre.length (cutsD pre.length parts) f ∧ ∀ k, f ≤ k → ¬ StrLaws.At (mkS x) (mkS dots) x.length k
  | [], x, pre, _, hx => ⟨pre.length, rfl, fun k hk h => by
      have := at_get (at_iff.mp h)
      rw [hx] at this
      have := (List.getElem?_eq_some_iff.mp this).1
      simp [glueD] at this; omega⟩
  | [p], x, pre, hp, hx => ⟨pre.length, rfl, fun k hk h => by
      have h' := at_iff.mp h
      have hk2 : k < pre.length + p.length := by
        have := h'.1
        rw [hx] at this; simp [glueD] at this; omega
      exact no_at (x := x) (pre := pre) (p := p) (rest := []) (by rw [hx]; simp [glueD]) (hp p (List.mem_singleton.mpr rfl)) hk hk2 h'⟩
  | p :: q :: r, x, pre, hp, hx => by
    have hx2 : x = (pre ++ p ++ dots) ++ glueD (q :: r) := by rw [hx, glueD]; simp
    obtain ⟨f, hf, hn⟩ := chain_glue (q :: r) x (pre ++ p ++ dots) (fun a ha => hp a (List.mem_cons_of_mem _ ha)) hx2
    have el : (pre ++ p ++ dots).length = pre.length + p.length + 3 := by simp; omega
    rw [el] at hf
    refine ⟨f, ⟨Nat.le_add_right _ _, at_iff.mpr ⟨?_, ?_⟩, fun k h1 h2 h => ?_, hf⟩, hn⟩
    · rw [hx2]; simp; omega
    · have e : x = (pre ++ p) ++ (dots ++ glueD (q :: r)) := by rw [hx2]; simp
      rw [e, ← List.length_append, List.drop_left]; simp
    · exact no_at (x := x) (pre := pre) (p := p) (rest := dots ++ glueD (q :: r)) (by rw [hx2]; simp) (hp p (List.mem_cons_self ..)) h1 h2 (at_iff.mp h)
theorem chain_unique {s sub : Str} {hi : Nat} : ∀ {cuts cuts' : List Nat} {a f f' : Nat}, StrLaws.ChainG s sub hi a cuts f → (∀ k, f ≤ k → ¬ StrLaws.At s sub hi k) → StrLaws.ChainG s sub hi a cuts' f' → (∀ k, f' ≤ k → ¬ StrLaws.At s sub hi k) → cuts = cuts'
  | [], [], _, _, _, _, _, _, _ => rfl
  | [], c :: r, a, f, f', h, hn, h', _ => by
    have e : f = a := h
    subst e
    exact absurd h'.2.1 (hn c h'.1)
  | c :: r, [], a, f, f', h, _, h', hn => by
    have e : f' = a := h'
    subst e
    exact absurd h.2.1 (hn c h.1)
  | c :: r, c' :: r', a, f, f', h, hn, h', hn' => by
    have e : c = c' := by
      rcases Nat.lt_trichotomy c c' with q | q | q
      · exact absurd h.2.1 (h'.2.2.1 c h.1 q)
      · exact q
      · exact absurd h'.2.1 (h.2.2.1 c' h'.1 q)
    subst e
    rw [chain_unique h.2.2.2 hn h'.2.2.2 hn']
theorem parts_glue : ∀ (parts : List (List Nat)) (x pre : List Nat), parts ≠ [] → x = pre ++ glueD parts → (StrLaws.partsFrom (mkS x) 3 pre.length (cutsD pre.length parts)).map (fun p => p.cps.toList) = parts
  | [], _, _, h, _ => absurd rfl h
  | [p], x, pre, _, hx => by
    show [(Builtin.Str.strSub (mkS x) pre.length (mkS x).length).cps.toList] = _
    rw [StrLaws.strSub_toList, mkS_len, hx]
    simp [glueD]
  | p :: q :: r, x, pre, _, hx => by
    have hx2 : x = (pre ++ p ++ dots) ++ glueD (q :: r) := by rw [hx, glueD]; simp
    have ih := parts_glue (q :: r) x (pre ++ p ++ dots) (by simp) hx2
    have el : (pre ++ p ++ dots).length = pre.length + p.length + 3 := by simp; omega
    rw [el] at ih
    show (Builtin.Str.strSub (mkS x) pre.length (pre.length + p.length)).cps.toList :: (StrLaws.partsFrom (mkS x) 3 (pre.length + p.length + 3) (cutsD (pre.length + p.length + 3) (q :: r))).map (fun p => p.cps.toList) = _
    rw [ih, StrLaws.strSub_toList, hx]
    simp [glueD]
theorem split_glue {p q : List Nat} {r : List (List Nat)} (hp : ∀ a ∈ p :: q :: r, 46 ∉ a) : splitL (glueD (p :: q :: r)) dots = p :: q :: r ∧ Txt.contains (mkS (glueD (p :: q :: r))) (mkS dots) = true := by
  generalize hx : glueD (p :: q :: r) = x
  obtain ⟨f, hf, hn⟩ := chain_glue (p :: q :: r) x [] hp (by rw [hx]; rfl)
  obtain ⟨f', hf', hn'⟩ := StrLaws.occ_tight (mkS x) (mkS dots) (by decide)
  rw [mkS_len] at hf' hn'
  have e : Builtin.Str.occurrences (mkS x) (mkS dots) 0 x.length (x.length + 1) = cutsD 0 (p :: q :: r) := chain_unique hf' hn' hf hn
  have hc : Txt.contains (mkS x) (mkS dots) = true := cont_iff.mpr ⟨p.length, by
    have := hf.2.1
    simpa using at_iff.mp this⟩
  refine ⟨?_, hc⟩
  have k1 : ∀ y : Str, 1 ≤ Builtin.Str.strKind y := fun y => by
    unfold Builtin.Str.strKind
    split
    · exact Nat.le_refl _
    · split <;> decide
  have k2 : Builtin.Str.strKind (mkS dots) = 1 := by simp [Builtin.Str.strKind]
  have e1 : (decide ((mkS x).length < (mkS dots).length) || decide (Builtin.Str.strKind (mkS x) < Builtin.Str.strKind (mkS dots))) = false := by
    obtain ⟨i, hi⟩ := cont_iff.mp hc
    have a := hi.1
    have b := k1 (mkS x)
    rw [k2, mkS_len, mkS_len, decide_eq_false (by omega), decide_eq_false (by omega)]; rfl
  unfold splitL Txt.split
  rw [e1, mkS_len, e]
  show (Builtin.Str.partsBetween (mkS x) (cutsD 0 (p :: q :: r)) 3).map _ = _
  rw [StrLaws.partsBetween_eq]
  exact parts_glue (p :: q :: r) x [] (by simp) (by rw [hx]; rfl)
theorem em_plain {p got : List Nat} (h : 46 ∉ p) : em p got = (p == got) := by
  unfold em
  have : Txt.contains (mkS p) (mkS dots) = false := by
    rw [Bool.eq_false_iff]
    intro hc
    obtain ⟨i, hi⟩ := cont_iff.mp hc
    exact h (List.mem_of_getElem? (at_get hi))
  rw [this]; rfl
theorem em_glue {p q got : List Nat} {r : List (List Nat)} {w : List Nat} (hw : w = glueD (p :: q :: r)) (hp : ∀ a ∈ p :: q :: r, 46 ∉ a) : em w got = em1 got (p :: q :: r) := by
  obtain ⟨h1, h2⟩ := split_glue hp
  unfold em
  rw [hw, h1, h2]; rfl
theorem at_zero {x y : List Nat} : AtL x y x.length 0 ↔ y <+: x := by
  unfold AtL
  rw [List.prefix_iff_eq_take, List.drop_zero]
  constructor
  · exact fun h => h.2.symm
  · intro h
    refine ⟨?_, h.symm⟩
    have := congrArg List.length h
    rw [List.length_take] at this; omega
theorem ends_suf {x y : List Nat} : Txt.endswith (mkS x) (mkS y) = true ↔ y <:+ x := by
  rw [ends_iff, List.suffix_iff_eq_drop]
  constructor
  · rintro ⟨h1, h2⟩
    rw [List.take_of_length_le (by rw [List.length_drop]; omega)] at h2
    exact h2.symm
  · intro h
    have hl : y.length ≤ x.length := by
      have := congrArg List.length h
      rw [List.length_drop] at this; omega
    refine ⟨hl, ?_⟩
    rw [List.take_of_length_le (by rw [List.length_drop]; omega)]
    exact h.symm
theorem loop_nil {x : List Nat} {en st : Nat} (h : st ≤ en) : emLoop x en st [[]] = true := by
  unfold emLoop
  rw [findIn_nil h, if_neg (by omega)]; rfl
theorem loop_one {x y : List Nat} {en st : Nat} (hy : en ≤ x.length) {ws : List (List Nat)} : emLoop x en st (y :: ws) = true ↔ ∃ a, st ≤ a ∧ AtL x y en a ∧ (∀ k, st ≤ k → k < a → ¬ AtL x y en k) ∧ emLoop x en (a + y.length) ws = true := by
  rw [emLoop]
  rcases findIn_spec x y st en with ⟨e, hn⟩ | ⟨a, e, h1, h2, h3⟩
  · rw [e, if_pos (by decide)]
    exact ⟨fun h => (by cases h), fun ⟨a, h1, h2, _⟩ => absurd h2 (hn a h1)⟩
  · rw [e, if_neg (by omega), Int.toNat_natCast]
    refine ⟨fun h => ⟨a, h1, h2, h3, h⟩, fun ⟨b, g1, g2, g3, g4⟩ => ?_⟩
    rcases Nat.lt_trichotomy a b with q | q | q
    · exact absurd h2 (g3 a h1 q)
    · rw [q]; exact g4
    · exact absurd g2 (h3 b g1 q)
theorem em1_B {x a : List Nat} : em1 x [a, []] = true ↔ a <+: x := by
  unfold em1
  cases a with
  | nil =>
    refine ⟨fun _ => List.nil_prefix, fun _ => ?_⟩
    show em2 x [[], []] 0 = true
    unfold em2 em3
    show (if 0 > x.length then false else emLoop x x.length 0 [[], []]) = true
    rw [if_neg (by omega), emLoop, findIn_nil (Nat.zero_le _), if_neg (by omega)]
    exact loop_nil (by simp)
  | cons c r =>
    show (if Txt.startswith (mkS x) (mkS (c :: r)) = true then em2 x [[]] (c :: r).length else false) = true ↔ _
    rw [← at_zero, ← starts_iff]
    cases hs : Txt.startswith (mkS x) (mkS (c :: r)) with
    | false => simp
    | true =>
      refine ⟨fun _ => rfl, fun _ => ?_⟩
      have hl := (starts_iff.mp hs).1
      show em2 x [[]] (c :: r).length = true
      unfold em2 em3
      show (if (c :: r).length > x.length then false else emLoop x x.length (c :: r).length [[]]) = true
      rw [if_neg (by omega)]
      exact loop_nil (by omega)
theorem em1_C {x a b : List Nat} (ha : a ≠ []) (hb : b ≠ []) : em1 x [a, b] = true ↔ a <+: x ∧ b <:+ x ∧ a.length + b.length ≤ x.length := by
  obtain ⟨c, r, rfl⟩ := List.exists_cons_of_ne_nil ha
  obtain ⟨d, t, rfl⟩ := List.exists_cons_of_ne_nil hb
  unfold em1
  show (if Txt.startswith (mkS x) (mkS (c :: r)) = true then em2 x [d :: t] (c :: r).length else false) = true ↔ _
  rw [← at_zero, ← starts_iff, ← ends_suf]
  cases hs : Txt.startswith (mkS x) (mkS (c :: r)) with
  | false => simp
  | true =>
    show em2 x [d :: t] (c :: r).length = true ↔ _
    unfold em2
    show (if Txt.endswith (mkS x) (mkS (d :: t)) = true then em3 x [] (c :: r).length (x.length - (d :: t).length) else false) = true ↔ _
    cases he : Txt.endswith (mkS x) (mkS (d :: t)) with
    | false => simp
    | true =>
      have hl := (ends_iff.mp he).1
      show (if (c :: r).length > x.length - (d :: t).length then false else true) = true ↔ _
      split
      · rename_i hgt
        refine ⟨fun h => (by cases h), fun h => absurd h.2.2 (by omega)⟩
      · rename_i hgt
        exact ⟨fun _ => ⟨rfl, rfl, by omega⟩, fun _ => rfl⟩
theorem em1_head {x : List Nat} {ws : List (List Nat)} (h : (ws.getLastD []) = []) : em1 x ([] :: ws) = emLoop x x.length 0 ws := by
  unfold em1
  show em2 x ([] :: ws) 0 = _
  unfold em2 em3
  have : (([] : List Nat) :: ws).getLastD [] = [] := by cases ws with | nil => rfl | cons a r => simpa using h
  rw [this]
  show (if 0 > x.length then false else emLoop x x.length 0 ([] :: ws)) = _
  rw [if_neg (by omega), emLoop, findIn_nil (Nat.zero_le _), if_neg (by omega)]; rfl
theorem em1_D {x a : List Nat} : em1 x [[], a, []] = true ↔ ∃ i, AtL x a x.length i := by
  rw [em1_head rfl, loop_one (Nat.le_refl _)]
  constructor
  · rintro ⟨i, _, h, _⟩; exact ⟨i, h⟩
  · rintro ⟨i, h⟩
    rcases findIn_spec x a 0 x.length with ⟨_, hn⟩ | ⟨b, _, h1, h2, h3⟩
    · exact absurd h (hn i (Nat.zero_le _))
    · exact ⟨b, h1, h2, h3, loop_nil h2.1⟩
theorem at_one {x : List Nat} {c hi i : Nat} : AtL x [c] hi i ↔ i < hi ∧ x[i]? = some c := by
  unfold AtL
  rw [← beq_iff_eq (a := (x.drop i).take [c].length)]
  show i + 1 ≤ hi ∧ ((x.drop i).take 1 == [c]) = true ↔ _
  rw [StrLaws.take1_drop]; exact Iff.rfl
theorem em1_E {x : List Nat} {a b : Nat} : em1 x [[], [a], [b], []] = true ↔ ∃ i j : Nat, i < j ∧ x[i]? = some a ∧ x[j]? = some b := by
  rw [em1_head rfl, loop_one (Nat.le_refl _)]
  constructor
  · rintro ⟨i, _, h, _, h2⟩
    rw [loop_one (Nat.le_refl _)] at h2
    obtain ⟨j, h3, h4, _⟩ := h2
    exact ⟨i, j, h3, (at_one.mp h).2, (at_one.mp h4).2⟩
  · rintro ⟨i, j, hij, h1, h2⟩
    have lj := (List.getElem?_eq_some_iff.mp h2).1
    have ai : AtL x [a] x.length i := at_one.mpr ⟨by omega, h1⟩
    rcases findIn_spec x [a] 0 x.length with ⟨_, hn⟩ | ⟨p, _, g1, g2, g3⟩
    · exact absurd ai (hn i (Nat.zero_le _))
    · have hpi : p ≤ i := by
        rcases Nat.lt_or_ge i p with q | q
        · exact absurd ai (g3 i (Nat.zero_le _) q)
        · exact q
      refine ⟨p, g1, g2, g3, ?_⟩
      rw [loop_one (Nat.le_refl _)]
      have aj : AtL x [b] x.length j := at_one.mpr ⟨lj, h2⟩
      rcases findIn_spec x [b] (p + 1) x.length with ⟨_, hn⟩ | ⟨q, _, f1, f2, f3⟩
      · exact absurd aj (hn j (by omega))
      · exact ⟨q, f1, f2, f3, loop_nil f2.1⟩
theorem em1_F {x : List Nat} {a b : Nat} : em1 x [[], [a], [b]] = true ↔ [b] <:+ x ∧ ∃ i : Nat, i + 1 < x.length ∧ x[i]? = some a := by
  unfold em1
  show em2 x [[], [a], [b]] 0 = true ↔ _
  unfold em2
  show (if Txt.endswith (mkS x) (mkS [b]) = true then em3 x [[], [a]] 0 (x.length - 1) else false) = true ↔ _
  rw [← ends_suf]
  cases he : Txt.endswith (mkS x) (mkS [b]) with
  | false => simp
  | true =>
    have hl := (ends_iff.mp he).1
    have hl : 1 ≤ x.length := hl
    show em3 x [[], [a]] 0 (x.length - 1) = true ↔ _
    unfold em3
    rw [if_neg (by omega), emLoop, findIn_nil (Nat.zero_le _), if_neg (by omega)]
    show emLoop x (x.length - 1) 0 [[a]] = true ↔ _
    rw [loop_one (by omega)]
    constructor
    · rintro ⟨i, _, h, _⟩
      have := at_one.mp h
      exact ⟨rfl, i, by omega, this.2⟩
    · rintro ⟨_, i, h1, h2⟩
      rcases findIn_spec x [a] 0 (x.length - 1) with ⟨_, hn⟩ | ⟨p, _, g1, g2, g3⟩
      · exact absurd (at_one.mpr ⟨by omega, h2⟩) (hn i (Nat.zero_le _))
      · exact ⟨p, g1, g2, g3, rfl⟩
structure Sg (h s t : Nat) : Prop where
  hs : h ≠ s
  ht : h ≠ t
  st : s ≠ t
  h46 : h ≠ 46
  s46 : s ≠ 46
  t46 : t ≠ 46
theorem two_at {a b : Nat} : ∀ x : List Nat, (∃ i j : Nat, i < j ∧ x[i]? = some a ∧ x[j]? = some b) ↔ a ∈ x ∧ b ∈ x.drop (x.idxOf a + 1)
  | [] => by simp
  | c :: r => by
    by_cases hc : c = a
    · subst hc
      rw [List.idxOf_cons_self]
      constructor
      · rintro ⟨i, j, hij, _, h2⟩
        obtain ⟨j', rfl⟩ : ∃ j', j = j' + 1 := ⟨j - 1, by omega⟩
        exact ⟨List.mem_cons_self .., List.mem_of_getElem? h2⟩
      · rintro ⟨_, h2⟩
        obtain ⟨j, hj⟩ := List.mem_iff_getElem?.mp h2
        exact ⟨0, j + 1, by omega, rfl, hj⟩
    · have q : (c == a) = false := by simpa using hc
      have e : (c :: r).idxOf a = r.idxOf a + 1 := by rw [List.idxOf_cons, q]; rfl
      rw [e, List.drop_succ_cons, List.mem_cons]
      have ih := two_at (a := a) (b := b) r
      constructor
      · rintro ⟨i, j, hij, h1, h2⟩
        cases i with
        | zero => cases h1; exact absurd rfl hc
        | succ i =>
          obtain ⟨j', rfl⟩ : ∃ j', j = j' + 1 := ⟨j - 1, by omega⟩
          have := ih.mp ⟨i, j', by omega, h1, h2⟩
          exact ⟨.inr this.1, this.2⟩
      · rintro ⟨h1, h2⟩
        obtain ⟨i, j, hij, g1, g2⟩ := ih.mpr ⟨h1.resolve_left fun q => hc q.symm, h2⟩
        exact ⟨i + 1, j + 1, by omega, g1, g2⟩
theorem last_suf {x : List Nat} {b : Nat} (hx : x ≠ []) : [b] <:+ x ↔ x.getLastD 0 = b := by
  obtain ⟨y, c, rfl⟩ : ∃ y c, x = y ++ [c] := ⟨x.dropLast, x.getLast hx, (List.dropLast_concat_getLast hx).symm⟩
  rw [List.getLastD_concat]
  constructor
  · rintro ⟨z, hz⟩
    have := List.append_inj' hz rfl
    simpa using this.2.symm
  · rintro rfl
    exact ⟨y, rfl⟩
theorem init_at {x : List Nat} {a : Nat} : (∃ i : Nat, i + 1 < x.length ∧ x[i]? = some a) ↔ a ∈ x.dropLast := by
  rw [List.mem_iff_getElem?]
  refine exists_congr fun i => ?_
  rw [List.getElem?_dropLast]
  split
  · exact ⟨fun h => h.2, fun h => ⟨by omega, h⟩⟩
  · constructor
    · rintro ⟨h, _⟩; omega
    · intro h; cases h
theorem take_pre {x y : List Nat} {p : Nat} : x.take p ++ y <+: x ↔ (x.drop p).take y.length = y := by
  have e : x.take p ++ y <+: x ↔ x.take p ++ y <+: x.take p ++ x.drop p := by rw [List.take_append_drop]
  rw [e, List.prefix_append_right_inj, List.prefix_iff_eq_take]
  exact eq_comm
section
variable {h s t k : Nat} {u : List Nat} (X : Sg h s t) (hu : ∀ c ∈ u, c = s ∨ c = t)
include X hu
theorem txt46 : 46 ∉ h :: u := fun hm => by
  rcases List.mem_cons.mp hm with q | q
  · exact X.h46 q.symm
  · rcases hu _ q with q | q
    · exact X.s46 q.symm
    · exact X.t46 q.symm
theorem u_noh : h ∉ u := fun hm => by
  rcases hu _ hm with q | q
  · exact X.hs q
  · exact X.ht q
omit hu in
theorem one46 {c : Nat} (hc : c = s ∨ c = t) : 46 ∉ [c] := fun hm => by
  rw [List.mem_singleton] at hm
  rcases hc with q | q
  · exact X.s46 (by omega)
  · exact X.t46 (by omega)
theorem e_pat1 : (pat1 k h s t).map (fun p => em p (h :: u)) = due1 (h :: u) k s t := by
  have n0 : 46 ∉ ([] : List Nat) := by simp
  have nh : 46 ∉ [h] := by simpa using fun q => X.h46 q.symm
  have ns : 46 ∉ [s] := one46 X (.inl rfl)
  have nrs : ∀ n, 46 ∉ List.replicate n s := fun n hm => X.s46 (List.eq_of_mem_replicate hm).symm
  have nrt : ∀ n, 46 ∉ List.replicate n t := fun n hm => X.t46 (List.eq_of_mem_replicate hm).symm
  have f1 : em ([h] ++ dots) (h :: u) = true := by
    rw [em_glue (p := [h]) (q := []) (r := []) (by simp [glueD]) (by intro a ha; rcases List.mem_cons.mp ha with rfl | ha; exact nh; rw [List.mem_singleton.mp ha]; exact n0)]
    exact em1_B.mpr ⟨u, rfl⟩
  have f2 : em (([h] ++ dots) ++ [s]) (h :: u) = ([(h :: u).getLastD 0] == [s]) := by
    rw [em_glue (p := [h]) (q := [s]) (r := []) (by simp [glueD]) (by intro a ha; rcases List.mem_cons.mp ha with rfl | ha; exact nh; rw [List.mem_singleton.mp ha]; exact ns), Bool.eq_iff_iff, em1_C (by simp) (by simp), last_suf (by simp)]
    rw [beq_iff_eq]
    constructor
    · rintro ⟨_, q, _⟩; rw [q]
    · intro q
      have q : (h :: u).getLastD 0 = s := by simpa using q
      refine ⟨⟨u, rfl⟩, q, ?_⟩
      cases u with
      | nil => exact absurd q X.hs
      | cons c r => simp
  have f3 : em ((((dots ++ [h]) ++ dots) ++ [h]) ++ dots) (h :: u) = false := by
    rw [em_glue (p := []) (q := [h]) (r := [[h], []]) (by simp [glueD]) (by intro a ha; simp at ha; rcases ha with rfl | rfl | rfl | rfl <;> first | exact n0 | exact nh), Bool.eq_false_iff]
    intro hc
    obtain ⟨i, j, hij, _, h2⟩ := em1_E.mp hc
    obtain ⟨j', rfl⟩ : ∃ j', j = j' + 1 := ⟨j - 1, by omega⟩
    exact u_noh X hu (List.mem_of_getElem? h2)
  have f4 : ∀ (a : List Nat), 46 ∉ a → em ((dots ++ a) ++ dots) (h :: u) = Txt.contains (mkS (h :: u)) (mkS a) := fun a ha => by
    rw [em_glue (p := []) (q := a) (r := [[]]) (by simp [glueD]) (by intro b hb; simp at hb; rcases hb with rfl | rfl | rfl <;> first | exact n0 | exact ha), Bool.eq_iff_iff, em1_D, cont_iff]
  unfold pat1 due1
  simp only [List.map_cons, List.map_nil]
  rw [f1, f2, f3, f4 _ (nrs k), f4 _ (nrt 2)]
theorem e_pat2 : (pat2 (h :: u) s).map (fun p => em p (h :: u)) = due2 (h :: u) := by
  have nt := txt46 X hu
  have nu : 46 ∉ u := fun q => nt (List.mem_cons_of_mem _ q)
  have nd : 46 ∉ (h :: u).dropLast := fun q => nt (List.dropLast_subset _ q)
  have ns : 46 ∉ (h :: u) ++ [s] := fun q => (List.mem_append.mp q).elim nt (one46 X (.inl rfl))
  have neq : ∀ {a b : List Nat}, a.length ≠ b.length → (a == b) = false := fun h => by
    rw [Bool.eq_false_iff]; intro q; exact h (congrArg List.length (eq_of_beq q))
  have f10 : em ((h :: u).drop 1 ++ dots) (h :: u) = (((h :: u).length : Int) == 1) := by
    rw [em_glue (p := u) (q := []) (r := []) (by simp [glueD]) (by intro b hb; simp at hb; rcases hb with rfl | rfl; exact nu; simp), Bool.eq_iff_iff, em1_B, beq_iff_eq]
    cases u with
    | nil => simp
    | cons c r =>
      constructor
      · rintro ⟨z, hz⟩
        have : c = h := by simpa using congrArg List.head? hz
        exact absurd (this ▸ List.mem_cons_self ..) (u_noh X hu)
      · intro q; simp only [List.length_cons] at q; omega
  have f11 : em (((h :: u).dropLast ++ dots) ++ (h :: u).drop 1) (h :: u) = decide (((h :: u).length : Int) < 3) := by
    rw [em_glue (p := (h :: u).dropLast) (q := u) (r := []) (by simp [glueD]) (by intro b hb; rcases List.mem_cons.mp hb with rfl | hb; exact nd; rw [List.mem_singleton.mp hb]; exact nu), Bool.eq_iff_iff, decide_eq_true_eq]
    cases u with
    | nil =>
      refine ⟨fun _ => by simp, fun _ => em1_B.mpr List.nil_prefix⟩
    | cons c r =>
      rw [em1_C (by simp) (by simp)]
      constructor
      · rintro ⟨_, _, q⟩; simp only [List.length_cons, List.length_dropLast] at q ⊢; omega
      · intro q
        refine ⟨List.dropLast_prefix _, ⟨[h], rfl⟩, ?_⟩
        simp only [List.length_cons, List.length_dropLast] at q ⊢; omega
  unfold pat2 due2
  simp only [List.map_cons, List.map_nil]
  rw [f10, f11, em_plain nt, em_plain ns, em_plain (show 46 ∉ (h :: u).drop 1 from nu), em_plain nd, neq (a := (h :: u) ++ [s]) (by simp), neq (a := (h :: u).drop 1) (by simp), neq (a := (h :: u).dropLast) (by simp)]
  simp
omit X hu in
theorem twosL_mem {p : Nat × Nat} (hp : p ∈ twosL s t) : (p.1 = s ∨ p.1 = t) ∧ (p.2 = s ∨ p.2 = t) := by
  unfold twosL at hp
  simp at hp
  rcases hp with rfl | rfl | rfl | rfl <;> simp
theorem e_pat3 : (pat3 s t).map (fun p => em p (h :: u)) = due3 (h :: u) s t := by
  unfold pat3 due3
  rw [List.map_map]
  refine List.map_congr_left fun p hp => ?_
  obtain ⟨h1, h2⟩ := twosL_mem hp
  show em ((((dots ++ [p.1]) ++ dots) ++ [p.2]) ++ dots) (h :: u) = _
  rw [em_glue (p := []) (q := [p.1]) (r := [[p.2], []]) (by simp [glueD]) (by intro a ha; simp at ha; rcases ha with rfl | rfl | rfl | rfl; simp; exact one46 X h1; exact one46 X h2; simp), Bool.eq_iff_iff, em1_E, two_at, Bool.and_eq_true, decide_eq_true_eq, decide_eq_true_eq]
theorem e_pat4 : (pat4 s t).map (fun p => em p (h :: u)) = due4 (h :: u) s t := by
  unfold pat4 due4
  rw [List.map_map]
  refine List.map_congr_left fun p hp => ?_
  obtain ⟨h1, h2⟩ := twosL_mem hp
  show em (((dots ++ [p.1]) ++ dots) ++ [p.2]) (h :: u) = _
  rw [em_glue (p := []) (q := [p.1]) (r := [[p.2]]) (by simp [glueD]) (by intro a ha; simp at ha; rcases ha with rfl | rfl | rfl; simp; exact one46 X h1; exact one46 X h2), Bool.eq_iff_iff, em1_F, init_at, last_suf (by simp), Bool.and_eq_true, decide_eq_true_eq, beq_iff_eq]
  simp
theorem e_spots {y : List Nat} (hy : 46 ∉ y) (n : Nat) (hn : y.length = n) : ((spotsL (h :: u)).map fun p => ((h :: u).take p ++ y) ++ dots).map (fun p => em p (h :: u)) = (spotsL (h :: u)).map fun p => ((h :: u).drop p).take (p + n - p) == y := by
  rw [List.map_map]
  refine List.map_congr_left fun p hp => ?_
  show em (((h :: u).take p ++ y) ++ dots) (h :: u) = _
  have n1 : 46 ∉ (h :: u).take p ++ y := fun q => (List.mem_append.mp q).elim (fun q => txt46 X hu (List.mem_of_mem_take q)) hy
  rw [em_glue (p := (h :: u).take p ++ y) (q := []) (r := []) (by simp [glueD]) (by intro a ha; rcases List.mem_cons.mp ha with rfl | ha; exact n1; rw [List.mem_singleton.mp ha]; simp), Bool.eq_iff_iff, em1_B, take_pre, beq_iff_eq, Nat.add_sub_cancel_left, hn]
theorem hE_all : (pats (h :: u) k h s t).map (fun p => em p (h :: u)) = dues (h :: u) k s t := by
  unfold pats dues
  rw [List.map_append, List.map_append, List.map_append, List.map_append, List.map_append, e_pat1 X hu, e_pat2 X hu, e_pat3 X hu, e_pat4 X hu]
  unfold pat5 pat6 due5 due6
  rw [e_spots X hu (y := List.replicate k s) (fun hm => X.s46 (List.eq_of_mem_replicate hm).symm) k (List.length_replicate), e_spots X hu (y := List.replicate 2 t) (fun hm => X.t46 (List.eq_of_mem_replicate hm).symm) 2 (List.length_replicate)]
end
theorem figs_dig (n : Nat) : ∀ l : List Int, (∀ d ∈ l, 0 ≤ d ∧ d < 2 ^ n) → figs n l.length (dig n l) = l
  | [], _ => rfl
  | d :: r, h => by
    obtain ⟨h1, h2⟩ := h d (List.mem_cons_self ..)
    have hp : (0 : Int) < 2 ^ n := Int.pow_pos (by decide)
    rw [List.length_cons, figs, dig, Int.add_mul_emod_self_left, Int.emod_eq_of_lt h1 h2, Int.add_mul_ediv_left _ _ (by omega), Int.ediv_eq_zero_of_lt h1 h2, Int.zero_add, figs_dig n r fun x hx => h x (List.mem_cons_of_mem _ hx)]
theorem i2d_dig {n : Nat} (hn : 0 < n) {l : List Int} {d : Int} (h : ∀ x ∈ l ++ [d], 0 ≤ x ∧ x < 2 ^ n) (hd : 0 < d) : i2dLen (dig n (l ++ [d])) n = l.length + 1 := by
  obtain ⟨b1, b2⟩ := dig_lt n _ h
  have hu := bits_le b1 b2
  have hl : ¬ Builtin.Int.intBits (dig n (l ++ [d])) ≤ n * l.length := fun hc => by
    have h1 := intBits_le_iff.mp hc
    have h2 : ((dig n (l ++ [d])).natAbs : Int) < ((2 ^ (n * l.length) : Nat) : Int) := by exact_mod_cast h1
    rw [Int.natAbs_of_nonneg b1, dig_append] at h2
    have h3 := (dig_lt n l fun x hx => h x (List.mem_append_left _ hx)).1
    have e : dig n [d] = d := by simp [dig]
    rw [e] at h2
    have hp : (0 : Int) < 2 ^ (n * l.length) := Int.pow_pos (by decide)
    have h4 : 2 ^ (n * l.length) * 1 ≤ 2 ^ (n * l.length) * d := Int.mul_le_mul_of_nonneg_left (by omega) (Int.le_of_lt hp)
    push_cast at h2
    omega
  rw [List.length_append, List.length_singleton, Nat.mul_add, Nat.mul_one] at hu
  show (Builtin.Int.intBits (dig n (l ++ [d])) + n - 1) / n = _
  generalize Builtin.Int.intBits (dig n (l ++ [d])) = a at hu hl
  refine Nat.div_eq_of_lt_le ?_ ?_
  · rw [Nat.mul_comm, Nat.mul_add, Nat.mul_one]; omega
  · show _ < (l.length + 1 + 1) * n
    rw [Nat.mul_comm, Nat.mul_add, Nat.mul_add, Nat.mul_one]; omega
theorem figs_all {n : Nat} (hn : 0 < n) {l : List Int} (h : ∀ x ∈ l, 0 ≤ x ∧ x < 2 ^ n) (hl : l = [] ∨ ∃ a d, l = a ++ [d] ∧ 0 < d) : figs n (i2dLen (dig n l) n) (dig n l) = l := by
  rcases hl with rfl | ⟨a, d, rfl, hd⟩
  · have : i2dLen (dig n []) n = 0 := by
      show (Builtin.Int.intBits 0 + n - 1) / n = 0
      have : Builtin.Int.intBits 0 = 0 := by decide +kernel
      rw [this]; exact Nat.div_eq_of_lt (by omega)
    rw [this]; rfl
  · rw [i2d_dig hn h hd, ← List.length_singleton (a := d), ← List.length_append, figs_dig n _ h]
noncomputable def val (w : Nat) (cd : Nat → Int) (T : List Nat) : Int := dig w (T.reverse.map cd)
noncomputable def Wl (w : Nat) (cd : Nat → Int) (T : List Nat) : Prop := ∀ c ∈ T, 0 ≤ cd c ∧ cd c < 2 ^ w
theorem Wl.rev {w : Nat} {cd : Nat → Int} {T : List Nat} (h : Wl w cd T) : ∀ x ∈ T.reverse.map cd, 0 ≤ x ∧ x < 2 ^ w := fun x hx => by
  obtain ⟨c, hc, rfl⟩ := List.mem_map.mp hx
  exact h c (List.mem_reverse.mp hc)
theorem Wl.app {w : Nat} {cd : Nat → Int} {A B : List Nat} : Wl w cd (A ++ B) ↔ Wl w cd A ∧ Wl w cd B := by
  unfold Wl
  constructor
  · exact fun h => ⟨fun c hc => h c (List.mem_append_left _ hc), fun c hc => h c (List.mem_append_right _ hc)⟩
  · rintro ⟨h1, h2⟩ c hc
    exact (List.mem_append.mp hc).elim (h1 c) (h2 c)
theorem val_app (w : Nat) (cd : Nat → Int) (A B : List Nat) : val w cd (A ++ B) = val w cd A * (2 ^ w) ^ B.length + val w cd B := by
  unfold val
  rw [List.reverse_append, List.map_append, dig_append, List.length_map, List.length_reverse, Int.pow_mul, Int.mul_comm, Int.add_comm]
theorem val_bd {w : Nat} {cd : Nat → Int} {T : List Nat} (h : Wl w cd T) : 0 ≤ val w cd T ∧ val w cd T < (2 ^ w) ^ T.length := by
  have := dig_lt w _ h.rev
  rw [List.length_map, List.length_reverse, Int.pow_mul] at this
  exact this
theorem val_div {w : Nat} {cd : Nat → Int} {A B : List Nat} (h : Wl w cd B) : (val w cd (A ++ B)).fdiv ((2 ^ w) ^ B.length) = val w cd A ∧ (val w cd (A ++ B)).fmod ((2 ^ w) ^ B.length) = val w cd B := by
  have hp : (0 : Int) < (2 ^ w) ^ B.length := Int.pow_pos (Int.pow_pos (by decide))
  obtain ⟨b1, b2⟩ := val_bd h
  rw [Int.fdiv_eq_ediv_of_nonneg _ (Int.le_of_lt hp), Int.fmod_eq_emod_of_nonneg _ (Int.le_of_lt hp), val_app, Int.add_comm, Int.add_mul_ediv_right _ _ (by omega), Int.add_mul_emod_self_right, Int.ediv_eq_zero_of_lt b1 b2, Int.emod_eq_of_lt b1 b2]
  simp
theorem val_bz {w : Nat} {cd : Nat → Int} {T : List Nat} {n : Nat} (h : Wl w cd T) (hn : w * T.length ≤ n) : Bz n (val w cd T) := by
  obtain ⟨b1, b2⟩ := val_bd h
  rw [← Int.pow_mul] at b2
  exact (Bz.lt b1 b2).mono hn
theorem val_rep (w : Nat) (cd : Nat → Int) (c n : Nat) : val w cd (List.replicate n c) = dig w (List.replicate n (cd c)) := by
  unfold val
  rw [List.reverse_replicate, List.map_replicate]
theorem mul9 {w n m : Nat} (hw : w ≤ 9) (h : n ≤ m) : w * n ≤ 9 * m := Nat.mul_le_mul hw h
theorem PD.of {w k h s t : Nat} {cd : Nat → Int} {A M B P pt T T' : List Nat} {place rule : Int} (hw : w ≤ 9) (hT : T = A ++ (M ++ B)) (hT' : T' = A ++ (P ++ B)) (hl : T.length ≤ 400) (hl' : P.length ≤ 800) (hd : Wl w cd T) (hdP : Wl w cd P)
    (p0 : 0 ≤ place) (p1 : place < 256) (r0 : 256 ≤ rule) (r1 : rule < 260) (eof : (place == 0) = decide (rule < 258))
    (sel : [((T.length : Int) - 1, (1 : Int)), (1, (T.length : Int) - 1), (place, (k : Int)), (place, 2)][(rule - 256).toNat]? = some ((A.length : Int), (M.length : Int)))
    (pat : [([h] ++ dots) ++ [s], [h] ++ dots, (A ++ List.replicate k s) ++ dots, (A ++ List.replicate 2 t) ++ dots][(rule - 256).toNat]? = some pt) (yes : em pt T = true)
    (see : rule = 257 → A = [h]) (see2 : rule ≠ 257 → M = List.replicate M.length (if rule < 259 then s else t))
    (hput : [[s] ++ [t], T.drop 1 ++ T.drop 1, [t], []][(rule - 256).toNat]? = some P)
    (hinto : [val w cd M * 2 ^ w + cd t, val w cd M * (2 ^ w) ^ M.length + val w cd M, cd t, 0][(rule - 256).toNat]? = some (val w cd P)) :
    Nonempty (PD w k h s t (cd h) (cd s) (cd t) T (val w cd T) place rule T' (val w cd T')) := by
  have eT : T.length = A.length + (M.length + B.length) := by rw [hT]; simp
  have dA : Wl w cd A ∧ Wl w cd (M ++ B) := Wl.app.mp (hT ▸ hd)
  have dM := Wl.app.mp dA.2
  have etk : T.take A.length = A := by rw [hT, List.take_left]
  have edr : T.drop (A.length + M.length) = B := by rw [hT, ← List.append_assoc, ← List.length_append, List.drop_left]
  refine ⟨⟨A.length, M.length, B.length, P, pt, val w cd P, val w cd A, val w cd (M ++ B), val w cd M, val w cd B, p0, p1, r0, r1, eof, by omega, sel, by rw [etk]; exact pat, yes, ?_, fun _ => val_div dM.2, fun hb => ?_, fun hr => ?_, fun hr => ?_, hput, hinto, ?_, ?_, ?_, ?_, ?_, ?_, ?_, ?_⟩⟩
  · rw [hT, Nat.add_comm B.length, ← List.length_append]; exact val_div dA.2
  · have : B = [] := List.eq_nil_of_length_eq_zero (by omega)
    rw [this, List.append_nil]; exact ⟨rfl, rfl⟩
  · rw [see hr]; simp [val, dig]
  · have := see2 hr
    rw [this, val_rep, List.length_replicate]
    split <;> rfl
  · rw [etk, edr, List.append_assoc, hT']
  · rw [hT', ← List.append_assoc, val_app, val_app]
  · exact val_bz hd (by have := mul9 hw hl; omega)
  · exact val_bz dA.1 (by have := mul9 hw (show A.length ≤ 400 by omega); omega)
  · exact val_bz dA.2 (by have := mul9 hw (show (M ++ B).length ≤ 400 by rw [List.length_append]; omega); omega)
  · exact val_bz dM.1 (by have := mul9 hw (show M.length ≤ 400 by omega); omega)
  · exact val_bz hdP (by have := mul9 hw hl'; omega)
  · exact val_bz dM.2 (by have := mul9 hw (show B.length ≤ 400 by omega); omega)
inductive Der (k h s t : Nat) : List Nat → Int × Int → List Nat → Prop
  | a (u : List Nat) : Der k h s t ((h :: u) ++ ([s] ++ [])) (0, 256) ((h :: u) ++ (([s] ++ [t]) ++ []))
  | b (u : List Nat) : Der k h s t ([h] ++ (u ++ [])) (0, 257) ([h] ++ ((u ++ u) ++ []))
  | c (u B : List Nat) : u.length < 255 → Der k h s t ((h :: u) ++ (List.replicate k s ++ B)) ((u.length + 1 : Nat), 258) ((h :: u) ++ ([t] ++ B))
  | d (u B : List Nat) : u.length < 255 → Der k h s t ((h :: u) ++ (List.replicate 2 t ++ B)) ((u.length + 1 : Nat), 259) ((h :: u) ++ ([] ++ B))
noncomputable def Tx (h s t : Nat) (T : List Nat) : Prop := (∃ u, T = h :: u ∧ ∀ c ∈ u, c = s ∨ c = t) ∧ T.length ≤ 400
theorem Tx.no46 {h s t : Nat} {T : List Nat} (X : Sg h s t) (H : Tx h s t T) : 46 ∉ T := by
  obtain ⟨⟨u, rfl, hu⟩, _⟩ := H
  exact txt46 X hu
theorem Tx.wl {h s t w : Nat} {cd : Nat → Int} {T : List Nat} (H : Tx h s t T) (hh : Wl w cd [h, s, t]) : Wl w cd T := by
  obtain ⟨⟨u, rfl, hu⟩, _⟩ := H
  intro c hc
  rcases List.mem_cons.mp hc with rfl | hc
  · exact hh _ (by simp)
  · rcases hu c hc with rfl | rfl <;> exact hh _ (by simp)
theorem em_a {h s : Nat} {u : List Nat} (h1 : h ≠ 46) (h2 : s ≠ 46) : em (([h] ++ dots) ++ [s]) ((h :: u) ++ [s]) = true := by
  rw [em_glue (p := [h]) (q := [s]) (r := []) (by simp [glueD]) (by intro a ha; simp at ha; rcases ha with rfl | rfl <;> simp <;> omega), em1_C (by simp) (by simp)]
  exact ⟨⟨u ++ [s], rfl⟩, ⟨h :: u, rfl⟩, by simp⟩
theorem em_b {x y : List Nat} (h1 : 46 ∉ x) : em (x ++ dots) (x ++ y) = true := by
  rw [em_glue (p := x) (q := []) (r := []) (by simp [glueD]) (by intro a ha; rcases List.mem_cons.mp ha with rfl | ha; exact h1; rw [List.mem_singleton.mp ha]; simp), em1_B]
  exact ⟨y, rfl⟩
theorem val_one (w : Nat) (cd : Nat → Int) (c : Nat) : val w cd [c] = cd c := by simp [val, dig]
theorem nat_eof {n : Nat} {r : Int} (h : ¬ r < 258) : (((n + 1 : Nat) : Int) == 0) = decide (r < 258) := by
  rw [decide_eq_false h, beq_eq_false_iff_ne]; omega
theorem Der.pd {w k h s t : Nat} {cd : Nat → Int} {T T' : List Nat} {p : Int × Int} (X : Sg h s t) (hw : w ≤ 9) (hh : Wl w cd [h, s, t]) (D : Der k h s t T p T') (H : Tx h s t T) : Nonempty (PD w k h s t (cd h) (cd s) (cd t) T (val w cd T) p.1 p.2 T' (val w cd T')) := by
  have hd := H.wl hh
  have n46 := H.no46 X
  have hl := H.2
  cases D with
  | a u =>
    exact PD.of (P := [s] ++ [t]) (pt := ([h] ++ dots) ++ [s]) hw rfl rfl hl (Nat.le_of_ble_eq_true rfl) hd (fun c hc => hh c (by simp at hc ⊢; omega)) (by decide) (by decide) (by decide) (by decide) (by decide)
      (by show some (_, _) = _; simp) rfl (em_a X.h46 X.s46) (fun h => absurd h (by decide)) (fun _ => rfl) rfl (by
        show some _ = some _
        rw [val_app, val_one, val_one, List.length_singleton, Int.pow_succ, Int.pow_zero, Int.one_mul])
  | b u =>
    have wu : Wl w cd u := (Wl.app.mp (Wl.app.mp hd).2).1
    exact PD.of (P := u ++ u) (pt := [h] ++ dots) hw rfl rfl hl (by simp at hl ⊢; omega) hd (Wl.app.mpr ⟨wu, wu⟩) (by decide) (by decide) (by decide) (by decide) (by decide)
      (by show some (_, _) = _; simp) rfl (em_b (by simp; exact fun q => X.h46 q.symm)) (fun _ => rfl) (fun h => absurd rfl h) (by show some _ = _; simp) (by
        show some _ = some _
        rw [val_app])
  | c u B hu =>
    refine PD.of (rule := 258) (P := [t]) (pt := ((h :: u) ++ List.replicate k s) ++ dots) hw rfl rfl hl (Nat.le_of_ble_eq_true rfl) hd (fun c hc => hh c (by simp at hc ⊢; omega)) (by show (0 : Int) ≤ ((u.length + 1 : Nat) : Int); omega) (by show ((u.length + 1 : Nat) : Int) < 256; omega) (by decide) (by decide) (nat_eof (by decide))
      (by show some (_, _) = _; simp) rfl ?_ (fun h => absurd h (by decide)) (fun _ => by rw [List.length_replicate]; rfl) rfl (by
        show some _ = some _
        rw [val_one])
    rw [← List.append_assoc]
    exact em_b fun q => n46 (by rw [← List.append_assoc]; exact List.mem_append_left _ q)
  | d u B hu =>
    refine PD.of (rule := 259) (P := []) (pt := ((h :: u) ++ List.replicate 2 t) ++ dots) hw rfl rfl hl (by decide) hd (fun c hc => by cases hc) (by show (0 : Int) ≤ ((u.length + 1 : Nat) : Int); omega) (by show ((u.length + 1 : Nat) : Int) < 256; omega) (by decide) (by decide) (nat_eof (by decide))
      (by show some (_, _) = _; simp) rfl ?_ (fun h => absurd h (by decide)) (fun _ => rfl) rfl rfl
    rw [← List.append_assoc]
    exact em_b fun q => n46 (by rw [← List.append_assoc]; exact List.mem_append_left _ q)
inductive Ders (k h s t : Nat) : List Nat → List (Int × Int) → List Nat → Prop
  | nil {T : List Nat} : Tx h s t T → Ders k h s t T [] T
  | cons {T T' T'' : List Nat} {p : Int × Int} {ps : List (Int × Int)} : Tx h s t T → Der k h s t T p T' → Ders k h s t T' ps T'' → Ders k h s t T (p :: ps) T''
theorem Ders.app {k h s t : Nat} {T T' T'' : List Nat} {ps qs : List (Int × Int)} (D : Ders k h s t T ps T') (D' : Ders k h s t T' qs T'') : Ders k h s t T (ps ++ qs) T'' := by
  induction D with
  | nil _ => exact D'
  | cons a b _ ih => exact .cons a b (ih D')
theorem Ders.path {k h s t : Nat} {T T' : List Nat} {ps : List (Int × Int)} (D : Ders k h s t T ps T') : ∃ f : Nat → List Nat, f 0 = T ∧ f ps.length = T' ∧ (∀ i, i ≤ ps.length → Tx h s t (f i)) ∧ ∀ i p, ps[i]? = some p → Der k h s t (f i) p (f (i + 1)) := by
  induction D with
  | @nil T hT => exact ⟨fun _ => T, rfl, rfl, fun _ _ => hT, fun i p hp => by cases hp⟩
  | @cons T T₁ T₂ p ps hT d _ ih =>
    obtain ⟨f, f0, fl, ft, fd⟩ := ih
    refine ⟨fun i => match i with | 0 => T | j + 1 => f j, rfl, fl, fun i hi => ?_, fun i q hq => ?_⟩
    · cases i with
      | zero => exact hT
      | succ j => exact ft j (Nat.le_of_succ_le_succ hi)
    · cases i with
      | zero =>
        obtain rfl : p = q := Option.some.inj hq
        show Der k h s t T p (f 0)
        rw [f0]; exact d
      | succ j => exact fd j q hq
theorem unpair_app {α : Type} (a b : List (α × α)) : unpair (a ++ b) = unpair a ++ unpair b := by unfold unpair; rw [List.flatMap_append]
theorem unpair_rep {α : Type} (n : Nat) (l : List (α × α)) : unpair (List.replicate n l).flatten = (List.replicate n (unpair l)).flatten := by
  induction n with
  | zero => rfl
  | succ n ih => rw [List.replicate_succ, List.flatten_cons, unpair_app, ih, List.replicate_succ, List.flatten_cons]
theorem tx_of {h s t : Nat} {u : List Nat} (hu : ∀ c ∈ u, c = s ∨ c = t) (hl : u.length < 400) : Tx h s t (h :: u) := ⟨⟨u, rfl, hu⟩, hl⟩
theorem st_rep {s t n : Nat} : ∀ c ∈ List.replicate n s, c = s ∨ c = t := fun _ hc => .inl (List.eq_of_mem_replicate hc)
theorem st_app {s t : Nat} {u v : List Nat} (h : ∀ c ∈ u, c = s ∨ c = t) (h' : ∀ c ∈ v, c = s ∨ c = t) : ∀ c ∈ u ++ v, c = s ∨ c = t := fun c hc => (List.mem_append.mp hc).elim (h c) (h' c)
theorem st_t {s t : Nat} : ∀ c ∈ [t], c = s ∨ c = t := fun _ hc => .inr (List.mem_singleton.mp hc)
theorem st_s {s t : Nat} : ∀ c ∈ [s], c = s ∨ c = t := fun _ hc => .inl (List.mem_singleton.mp hc)
section
variable {k h s t : Nat}
theorem Der.cast {T T₁ T' T₁' : List Nat} {p p₁ : Int × Int} (D : Der k h s t T p T') (e : T = T₁) (e' : T' = T₁') (ep : p = p₁) : Der k h s t T₁ p₁ T₁' := by subst e; subst e'; subst ep; exact D
theorem Ders.cast {T T₁ T' T₁' : List Nat} {p p₁ : List (Int × Int)} (D : Ders k h s t T p T') (e : T = T₁) (e' : T' = T₁') (ep : p = p₁) : Ders k h s t T₁ p₁ T₁' := by subst e; subst e'; subst ep; exact D
theorem ders_dbl : ∀ m L : Nat, L * 2 ^ m < 400 → Ders k h s t (h :: List.replicate L s) (List.replicate m (0, 257)) (h :: List.replicate (L * 2 ^ m) s)
  | 0, L, hl => by
    rw [Nat.pow_zero, Nat.mul_one] at hl ⊢
    exact .nil (tx_of st_rep (by rw [List.length_replicate]; exact hl))
  | m + 1, L, hl => by
    have e : L * 2 ^ (m + 1) = (L + L) * 2 ^ m := by rw [Nat.pow_succ, Nat.mul_comm (2 ^ m) 2, ← Nat.mul_assoc, Nat.mul_two]
    have e1 : 1 ≤ 2 ^ m := Nat.one_le_two_pow
    have e2 : (L + L) * 1 ≤ (L + L) * 2 ^ m := Nat.mul_le_mul_left _ e1
    rw [e] at hl ⊢
    refine .cons (tx_of st_rep (by rw [List.length_replicate]; omega)) (Der.cast (.b (List.replicate L s)) ?_ rfl rfl) (Ders.cast (ders_dbl m (L + L) hl) ?_ rfl rfl)
    · simp
    · rw [List.append_nil, List.replicate_append_replicate]; rfl
theorem ders_red (hk : 0 < k) : ∀ j r : Nat, r + 2 * k * j < 400 → Ders k h s t (h :: List.replicate (r + 2 * k * j) s) (List.replicate j [((1 : Int), (258 : Int)), (2, 258), (1, 259)]).flatten (h :: List.replicate r s)
  | 0, r, hl => .nil (tx_of st_rep (by rw [List.length_replicate]; exact hl))
  | j + 1, r, hl => by
    have e : r + 2 * k * (j + 1) = k + (k + (r + 2 * k * j)) := by rw [Nat.mul_add, Nat.mul_one]; omega
    rw [e] at hl ⊢
    rw [List.replicate_succ, List.flatten_cons, ← List.replicate_append_replicate, ← List.replicate_append_replicate]
    have L1 : Tx h s t (h :: (List.replicate k s ++ (List.replicate k s ++ List.replicate (r + 2 * k * j) s))) := tx_of (st_app st_rep (st_app st_rep st_rep)) (by simp; omega)
    have L2 : Tx h s t (h :: ([t] ++ (List.replicate k s ++ List.replicate (r + 2 * k * j) s))) := tx_of (st_app st_t (st_app st_rep st_rep)) (by simp; omega)
    have L3 : Tx h s t (h :: ([t] ++ ([t] ++ List.replicate (r + 2 * k * j) s))) := tx_of (st_app st_t (st_app st_t st_rep)) (by simp; omega)
    exact .cons L1 (.c [] (List.replicate k s ++ List.replicate (r + 2 * k * j) s) (by decide)) (.cons L2 (.c [t] (List.replicate (r + 2 * k * j) s) (by simp)) (.cons L3 (.d [] (List.replicate (r + 2 * k * j) s) (by decide)) (ders_red hk j r (by omega))))
theorem ders_odd (hk : 0 < k) {n : Nat} (hn : n + k < 250) : Ders k h s t (h :: List.replicate (n + k) s) [((0 : Int), (256 : Int)), (1 + (n : Int), 258), (1 + (n : Int), 259)] (h :: List.replicate n s) := by
  have L1 : Tx h s t (h :: List.replicate (n + k) s) := tx_of st_rep (by simp; omega)
  have L2 : Tx h s t (h :: (List.replicate n s ++ (List.replicate k s ++ [t]))) := tx_of (st_app st_rep (st_app st_rep st_t)) (by simp; omega)
  have L3 : Tx h s t (h :: (List.replicate n s ++ (List.replicate 2 t ++ []))) := tx_of (st_app st_rep (st_app (fun c hc => .inr (List.eq_of_mem_replicate hc)) (fun c hc => by cases hc))) (by simp; omega)
  have L4 : Tx h s t (h :: (List.replicate n s)) := tx_of st_rep (by simp; omega)
  have ep : ∀ r : Int, ((((List.replicate n s).length + 1 : Nat) : Int), r) = (1 + (n : Int), r) := fun r => by rw [List.length_replicate]; congr 1; omega
  refine .cons L1 (Der.cast (.a (List.replicate (n + k - 1) s)) ?_ ?_ rfl) (.cons L2 (Der.cast (.c (List.replicate n s) [t] (by simp; omega)) rfl rfl (ep _)) (.cons L3 (Der.cast (.d (List.replicate n s) [] (by simp; omega)) rfl ?_ (ep _)) (.nil L4)))
  · show h :: (List.replicate (n + k - 1) s ++ [s]) = _
    rw [← List.replicate_succ', show n + k - 1 + 1 = n + k by omega]
  · show h :: (List.replicate (n + k - 1) s ++ ([s] ++ [t])) = _
    rw [← List.append_assoc, ← List.replicate_succ', show n + k - 1 + 1 = n + k by omega, ← List.replicate_append_replicate, List.append_assoc]
  · simp
noncomputable def kn (t : Nat) : Nat → List Nat → List (Int × Int)
  | _, [] => []
  | i, c :: v => (if c = t then [((i : Int), (258 : Int))] else []) ++ kn t (i + 1) v
theorem ders_kn (X : Sg h s t) (hk : 0 < k) : ∀ v u : List Nat, (∀ c ∈ u, c = s ∨ c = t) → (∀ c ∈ v, c = s ∨ c = t) → u.length + v.length < 250 → u.length + (v.count s + k * v.count t) < 400 → Ders k h s t ((h :: u) ++ List.replicate (v.count s + k * v.count t) s) (kn t (u.length + 1) v) ((h :: u) ++ v)
  | [], u, hu, _, _, hl => by
    rw [show ([] : List Nat).count s + k * ([] : List Nat).count t = 0 by simp] at hl ⊢
    exact .nil (tx_of (st_app hu (fun c hc => by cases hc)) (by simp; omega))
  | c :: v, u, hu, hv, h250, hl => by
    have hv' : ∀ c ∈ v, c = s ∨ c = t := fun d hd => hv d (List.mem_cons_of_mem _ hd)
    rw [List.length_cons] at h250
    rcases hv c (List.mem_cons_self ..) with e0 | e0 <;> rw [e0] at hl ⊢
    · rw [List.count_cons_self, List.count_cons_of_ne X.st] at hl ⊢
      have ih := ders_kn X hk v (u ++ [s]) (st_app hu st_s) hv' (by simp; omega) (by simp; omega)
      rw [kn, if_neg X.st, List.nil_append]
      refine Ders.cast ih ?_ (by simp) (by simp)
      rw [show v.count s + 1 + k * v.count t = (v.count s + k * v.count t) + 1 by omega, List.replicate_succ]; simp
    · rw [List.count_cons_self, List.count_cons_of_ne (Ne.symm X.st), Nat.mul_add, Nat.mul_one] at hl ⊢
      have ih := ders_kn X hk v (u ++ [t]) (st_app hu st_t) hv' (by simp; omega) (by simp; omega)
      rw [kn, if_pos rfl, List.singleton_append]
      have e : v.count s + (k * v.count t + k) = k + (v.count s + k * v.count t) := by omega
      rw [e] at hl ⊢
      rw [← List.replicate_append_replicate]
      refine .cons (tx_of (st_app hu (st_app st_rep st_rep)) (by simp; omega)) (Der.c u _ (by omega)) (Ders.cast ih (by simp) (by simp) (by simp))
noncomputable def allP (t n m q : Nat) (u : List Nat) : List (Int × Int) := List.replicate m (0, 257) ++ ((List.replicate (q / 2) [((1 : Int), (258 : Int)), (2, 258), (1, 259)]).flatten ++ ((if q % 2 = 1 then [((0 : Int), (256 : Int)), (1 + (n : Int), 258), (1 + (n : Int), 259)] else []) ++ kn t 1 u))
theorem ders_all (X : Sg h s t) (hk : 0 < k) {u : List Nat} {m q n : Nat} (hu : ∀ c ∈ u, c = s ∨ c = t) (hn : u.count s + k * u.count t = n) (hm : 2 ^ m = n + k * q) (hm8 : 2 ^ m < 400) (hnk : n + k < 250) (hl : u.length < 250) : Ders k h s t [h, s] (allP t n m q u) (h :: u) := by
  refine Ders.app (Ders.cast (ders_dbl m 1 (by omega)) rfl rfl rfl) (Ders.app (Ders.cast (ders_red hk (q / 2) (n + k * (q % 2)) ?_) ?_ rfl rfl) (Ders.app (T' := h :: List.replicate n s) ?_ (Ders.cast (ders_kn X hk u [] (fun c hc => by cases hc) hu (by simpa using hl) (by simp; omega)) ?_ rfl rfl)))
  · have := Nat.div_add_mod q 2
    have e : n + k * (q % 2) + 2 * k * (q / 2) = n + k * q := by
      rw [← congrArg (k * ·) this]
      show n + k * (q % 2) + 2 * k * (q / 2) = n + k * (2 * (q / 2) + q % 2)
      rw [Nat.mul_add, ← Nat.mul_assoc, Nat.mul_comm k 2]; omega
    omega
  · have := Nat.div_add_mod q 2
    have e : n + k * (q % 2) + 2 * k * (q / 2) = n + k * q := by
      rw [← congrArg (k * ·) this]
      show n + k * (q % 2) + 2 * k * (q / 2) = n + k * (2 * (q / 2) + q % 2)
      rw [Nat.mul_add, ← Nat.mul_assoc, Nat.mul_comm k 2]; omega
    rw [e, Nat.one_mul, hm]
  · rcases Nat.mod_two_eq_zero_or_one q with e | e
    · rw [e, if_neg (by decide)]
      exact .nil (tx_of st_rep (by simp; omega))
    · rw [e, if_pos rfl, Nat.mul_one]
      exact ders_odd hk hnk
  · rw [hn]; rfl
theorem kn_spots (t : Nat) : ∀ v pre : List Nat, ((List.range v.length).map (pre.length + ·)).flatMap (stepK (pre ++ v) t) = unpair (kn t pre.length v)
  | [], pre => rfl
  | c :: v, pre => by
    rw [List.length_cons, List.range_succ_eq_map, List.map_cons, List.flatMap_cons, List.map_map, kn, unpair_app]
    have ih := kn_spots t v (pre ++ [c])
    rw [List.append_assoc, List.singleton_append, List.length_append, List.length_singleton] at ih
    rw [← ih]
    congr 1
    · unfold stepK
      rw [Nat.add_zero, List.getD_eq_getElem?_getD, List.getElem?_append_right (Nat.le_refl _), Nat.sub_self]
      by_cases hc : c = t
      · subst hc; simp [unpair]
      · simp [hc, unpair]
    · refine congrArg (fun l : List Nat => l.flatMap _) (List.map_congr_left fun i _ => ?_)
      show pre.length + (i + 1) = pre.length + 1 + i
      omega
theorem all_steps {u : List Nat} {m q n : Nat} : stepsL (h :: u) t n m q = unpair (allP t n m q u) := by
  unfold stepsL stepA allP spotsL
  have e := kn_spots t u [h]
  rw [show (h :: u).length - 1 = u.length from rfl]
  rw [show ((List.range u.length).map (1 + ·)).flatMap (stepK (h :: u) t) = unpair (kn t 1 u) from e]
  rw [unpair_app, unpair_app, unpair_app, unpair_rep, List.append_assoc, List.append_assoc]
  congr 1
  · unfold unpair; rw [List.flatMap_replicate]
  · congr 1; congr 1
    split <;> rfl
theorem kn_len (t : Nat) : ∀ (v : List Nat) (i : Nat), (kn t i v).length ≤ v.length
  | [], _ => Nat.le_refl _
  | c :: v, i => by
    have := kn_len t v (i + 1)
    rw [kn, List.length_append, List.length_cons]
    split <;> simp <;> omega
theorem allP_len {u : List Nat} {m q n : Nat} : (allP t n m q u).length ≤ m + (3 * (q / 2) + (3 + u.length)) := by
  unfold allP
  have := kn_len t u 1
  have e : ((List.replicate (q / 2) [((1 : Int), (258 : Int)), (2, 258), (1, 259)]).flatten).length = 3 * (q / 2) := by
    rw [List.length_flatten, List.map_replicate, List.sum_replicate_nat]; simp; omega
  rw [List.length_append, List.length_append, List.length_append, e, List.length_replicate]
  split <;> simp <;> omega
end
theorem sum_dig (n : Nat) (f : Int × Nat → Int) : ∀ (l : List Int) (i : Nat), ((l.zipIdx i).map fun p => f p * 2 ^ (n * p.2)).sum = 2 ^ (n * i) * dig n ((l.zipIdx i).map f)
  | [], i => by simp [dig]
  | a :: l, i => by
    rw [List.zipIdx_cons, List.map_cons, List.map_cons, List.sum_cons, sum_dig n f l (i + 1), dig, Nat.mul_add, Nat.mul_one, Int.pow_add, Int.mul_add, Int.mul_assoc, Int.mul_comm (f (a, i))]
noncomputable def noisy (n3 : Int) (octs : List Int) : List Int := octs.zipIdx.map fun p => p.1 + 128 * (if (((p.2 : Nat) : Int) + n3).fmod 3 == 0 then 1 else 0)
theorem proof_dig (n3 : Int) (octs : List Int) : proofL n3 octs = dig 8 (noisy n3 octs) := by
  have := sum_dig 8 (fun p => p.1 + 128 * (if (((p.2 : Nat) : Int) + n3).fmod 3 == 0 then 1 else 0)) octs 0
  rw [Nat.mul_zero, Int.pow_zero, Int.one_mul] at this
  unfold proofL noisy
  rw [← this]
  refine congrArg List.sum (List.map_congr_left fun p _ => ?_)
  unfold proofV
  rw [Int.pow_mul]; rfl
theorem noisy_len (n3 : Int) (octs : List Int) : (noisy n3 octs).length = octs.length := by unfold noisy; simp
theorem noisy_mod {n3 : Int} {octs : List Int} (h : ∀ d ∈ octs, 0 ≤ d ∧ d < 128) : (noisy n3 octs).map (· % 128) = octs := by
  unfold noisy
  rw [List.map_map]
  have : ∀ p ∈ octs.zipIdx, ((fun x : Int => x % 128) ∘ fun p : Int × Nat => p.1 + 128 * (if (((p.2 : Nat) : Int) + n3).fmod 3 == 0 then 1 else 0)) p = p.1 := fun p hp => by
    obtain ⟨_, hl, e⟩ := List.mem_zipIdx hp
    have := h p.1 (by rw [e]; exact List.getElem_mem _)
    show (p.1 + 128 * (if (((p.2 : Nat) : Int) + n3).fmod 3 == 0 then 1 else 0)) % 128 = p.1
    split <;> omega
  rw [List.map_congr_left this, List.zipIdx_map_fst]
theorem noisy_bd {n3 : Int} {octs : List Int} (h : ∀ d ∈ octs, 0 ≤ d ∧ d < 128) : ∀ d ∈ noisy n3 octs, 0 ≤ d ∧ d < 2 ^ 8 := fun d hd => by
  obtain ⟨p, hp, rfl⟩ := List.mem_map.mp hd
  obtain ⟨_, hl, e⟩ := List.mem_zipIdx hp
  have := h p.1 (by rw [e]; exact List.getElem_mem _)
  split <;> omega
noncomputable def ocs (v : Int) : Nat → List Int
  | 0 => [octV v 0]
  | j + 1 => octV v (j + 1) :: ocs v j
theorem ocs_range (v : Int) : ∀ n, (List.range (n + 1)).map (fun i => octV v (n - i)) = ocs v n
  | 0 => rfl
  | n + 1 => by
    rw [List.range_succ_eq_map, List.map_cons, List.map_map, ocs, ← ocs_range v n]
    refine congrArg (List.cons _) (List.map_congr_left fun i _ => ?_)
    show octV v (n + 1 - (i + 1)) = _
    rw [Nat.add_sub_add_right]
theorem ocs_eq (v : Int) : (octJ v).map (octV v) = ocs v (vl v - 1) := by
  rw [← ocs_range, show vl v - 1 + 1 = vl v by unfold vl; omega]
  unfold octJ
  rw [List.map_map]; rfl
theorem octV_pos (v : Int) (j : Nat) : octV v (j + 1) % 64 = v / 64 ^ (j + 1) % 64 ∧ octV v (j + 1) / 64 % 2 = 1 := by
  unfold octV
  rw [Int.fdiv_eq_ediv_of_nonneg _ (Int.le_of_lt (Int.pow_pos (by decide))), Int.fmod_eq_emod_of_nonneg _ (by decide), if_pos (decide_eq_true (by omega))]
  omega
theorem octV_zero (v : Int) : octV v 0 = v % 64 := by
  unfold octV
  rw [if_neg (by decide), Int.pow_zero, Int.fdiv_one, Int.fmod_eq_emod_of_nonneg _ (by decide)]; omega
theorem div64 (v : Int) (j : Nat) (h : 0 ≤ v) : v / 64 ^ (j + 1) * 64 + v / 64 ^ j % 64 = v / 64 ^ j := by
  have e : v / 64 ^ (j + 1) = v / 64 ^ j / 64 := by
    have := ediv_ediv' v (64 ^ j) 64 h
    push_cast at this
    rw [this, Int.pow_succ]
  rw [e]; omega
theorem pv_ocs {v : Int} (hv : 0 ≤ v) : ∀ (j : Nat) (b : Int) (ds r : List Int), (b :: ds).map (· % 128) = ocs v j → pv (v / 64 ^ (j + 1) * 64 + b % 64) b (ds ++ r) = some (v, r)
  | 0, b, ds, r, h => by
    simp only [List.map_cons, ocs, List.cons.injEq, List.map_eq_nil_iff] at h
    obtain ⟨h1, rfl⟩ := h
    rw [octV_zero] at h1
    have e : v / 64 ^ (0 + 1) * 64 + b % 64 = v := by
      have := div64 v 0 hv
      rw [Int.pow_zero, Int.ediv_one] at this
      omega
    have hb : ¬ b / 64 % 2 = 1 := by omega
    rw [List.nil_append, e]
    cases r with
    | nil => rw [pv, if_neg hb]
    | cons c r => rw [pv, if_neg hb]
  | j + 1, b, ds, r, h => by
    simp only [List.map_cons, ocs, List.cons.injEq] at h
    obtain ⟨h1, h2⟩ := h
    obtain ⟨g1, g2⟩ := octV_pos v j
    have hb : b / 64 % 2 = 1 := by omega
    have e : v / 64 ^ (j + 1 + 1) * 64 + b % 64 = v / 64 ^ (j + 1) := by
      have := div64 v (j + 1) hv
      omega
    cases ds with
    | nil => cases j <;> cases h2
    | cons c ds =>
      rw [List.cons_append, pv, if_pos hb, e]
      exact pv_ocs hv j c ds r h2
theorem vl_top {v : Int} (hv : 0 ≤ v) : v / 64 ^ vl v = 0 := by
  have h : Builtin.Int.intBits v ≤ 6 * vl v := by unfold vl; omega
  have h1 := intBits_le_iff.mp h
  refine Int.ediv_eq_zero_of_lt hv ?_
  have h2 : ((v.natAbs : Nat) : Int) < ((2 ^ (6 * vl v) : Nat) : Int) := by exact_mod_cast h1
  rw [Int.natAbs_of_nonneg hv, Nat.pow_mul] at h2
  push_cast at h2
  exact h2
theorem parse_ocs {v : Int} (hv : 0 ≤ v) {ds r : List Int} (h : ds.map (· % 128) = ocs v (vl v - 1)) : parseV (ds ++ r) = some (v, r) := by
  cases ds with
  | nil =>
    cases e : vl v - 1 with
    | zero => rw [e] at h; cases h
    | succ j => rw [e] at h; cases h
  | cons b ds =>
    have e1 : vl v - 1 + 1 = vl v := by unfold vl; omega
    have := pv_ocs hv (vl v - 1) b ds r h
    rw [e1, vl_top hv, Int.zero_mul, Int.zero_add] at this
    exact this
theorem pv_none : ∀ (l : List Int) (v b : Int), b / 64 % 2 = 1 → (∀ d ∈ l, d / 64 % 2 = 1) → pv v b l = none
  | [], v, b, hb, _ => by rw [pv, if_pos hb]
  | c :: l, v, b, hb, h => by
    rw [pv, if_pos hb]
    exact pv_none l _ c (h c (List.mem_cons_self ..)) fun d hd => h d (List.mem_cons_of_mem _ hd)
theorem parse_none {l : List Int} (h : ∀ d ∈ l, d / 64 % 2 = 1) : parseV l = none := by
  cases l with
  | nil => rfl
  | cons b l => exact pv_none l _ b (h b (List.mem_cons_self ..)) fun d hd => h d (List.mem_cons_of_mem _ hd)
theorem runs_cat : ∀ (steps ds r out : List Int), (∀ v ∈ steps, 0 ≤ v) → ds.map (· % 128) = octsL steps → Runs r out → Runs (ds ++ r) (steps ++ out)
  | [], ds, r, out, _, h, hr => by
    have : ds = [] := List.map_eq_nil_iff.mp h
    rw [this]; exact hr
  | v :: steps, ds, r, out, hv, h, hr => by
    have e : octsL (v :: steps) = ocs v (vl v - 1) ++ octsL steps := by unfold octsL; rw [List.flatMap_cons, ocs_eq]
    rw [e] at h
    obtain ⟨a, b, rfl, h1, h2⟩ := List.map_eq_append_iff.mp h
    rw [List.append_assoc]
    exact .step (parse_ocs (hv v (List.mem_cons_self ..)) h1) (runs_cat steps b r out (fun x hx => hv x (List.mem_cons_of_mem _ hx)) h2 hr)
theorem ocs_two (v : Int) : ∀ j, ∃ a, ocs v (j + 1) = a ++ [octV v 1] ++ [octV v 0] ∧ ∀ d ∈ a ++ [octV v 1], d / 64 % 2 = 1
  | 0 => ⟨[], rfl, fun d hd => by
      rw [List.nil_append, List.mem_singleton] at hd
      rw [hd]; exact (octV_pos v 0).2⟩
  | j + 1 => by
    obtain ⟨a, e, h⟩ := ocs_two v j
    refine ⟨octV v (j + 2) :: a, by rw [ocs, e]; rfl, fun d hd => ?_⟩
    rcases List.mem_cons.mp hd with rfl | hd
    · exact (octV_pos v (j + 1)).2
    · exact h d hd
theorem vl_two {z : Int} (hz : 64 ≤ z) : ∃ j, vl z - 1 = j + 1 := by
  have h : ¬ Builtin.Int.intBits z ≤ 6 := fun hc => by
    have := intBits_le_iff.mp hc
    omega
  exact ⟨vl z - 2, by unfold vl; omega⟩
theorem proof_runs {ds steps : List Int} {z : Int} (hd : ∀ d ∈ ds, 0 ≤ d ∧ d < 2 ^ 8) (e : ds.map (· % 128) = octsL (steps ++ [z])) (hs : ∀ v ∈ steps, 0 ≤ v) (hz : 64 ≤ z) (hz0 : z % 64 ≠ 0) :
    Runs (figs 8 (i2dLen (dig 8 ds) 8) (dig 8 ds)) (steps ++ [z]) ∧ Runs (figs 8 (i2dLen ((dig 8 ds).fmod (256 ^ (ds.length - 1))) 8) ((dig 8 ds).fmod (256 ^ (ds.length - 1)))) steps := by
  obtain ⟨j, ej⟩ := vl_two hz
  obtain ⟨a, ea, hf⟩ := ocs_two z j
  have eo : octsL (steps ++ [z]) = octsL steps ++ ocs z (vl z - 1) := by unfold octsL; rw [List.flatMap_append, List.flatMap_singleton, ocs_eq]
  rw [eo] at e
  obtain ⟨d1, d2, rfl, g1, g2⟩ := List.map_eq_append_iff.mp e
  have g2' := g2
  rw [ej, ea] at g2'
  obtain ⟨d3, d4, rfl, g3, g4⟩ := List.map_eq_append_iff.mp g2'
  obtain ⟨dl, rfl, gl⟩ := List.map_eq_singleton_iff.mp g4
  have g3' := g3
  obtain ⟨d5, d6, rfl, g5, g6⟩ := List.map_eq_append_iff.mp g3'
  obtain ⟨dk, rfl, gk⟩ := List.map_eq_singleton_iff.mp g6
  have bl := hd dl (by simp)
  have bk := hd dk (by simp)
  have gl' : dl % 128 = octV z 0 := gl
  have gk' : dk % 128 = octV z 1 := gk
  rw [octV_zero] at gl'
  have k1 := (octV_pos z 0).2
  rw [Nat.zero_add, ← gk'] at k1
  have r0 : Runs [] [] := .stop rfl
  constructor
  · rw [figs_all (by decide) hd (.inr ⟨d1 ++ (d5 ++ [dk]), dl, by simp, by omega⟩)]
    refine runs_cat steps d1 _ [z] hs g1 ?_
    have := Runs.step (parse_ocs (r := []) (by omega) g2) r0
    rw [List.append_nil] at this
    exact this
  · have el : (d1 ++ (d5 ++ [dk] ++ [dl])).length - 1 = (d1 ++ (d5 ++ [dk])).length := by simp
    have es : d1 ++ (d5 ++ [dk] ++ [dl]) = (d1 ++ (d5 ++ [dk])) ++ [dl] := by simp
    rw [es] at hd
    have hd' : ∀ d ∈ d1 ++ (d5 ++ [dk]), 0 ≤ d ∧ d < 2 ^ 8 := fun d h => hd d (List.mem_append_left _ h)
    have hm : (dig 8 (d1 ++ (d5 ++ [dk] ++ [dl]))).fmod (256 ^ ((d1 ++ (d5 ++ [dk] ++ [dl])).length - 1)) = dig 8 (d1 ++ (d5 ++ [dk])) := by
      rw [el, es, dig_append, Int.fmod_eq_emod_of_nonneg _ (Int.le_of_lt (Int.pow_pos (by decide))), Int.pow_mul]
      obtain ⟨b1, b2⟩ := dig_lt 8 _ hd'
      rw [Int.pow_mul] at b2
      have b2 : dig 8 (d1 ++ (d5 ++ [dk])) < 256 ^ (d1 ++ (d5 ++ [dk])).length := b2
      show (_ + 256 ^ _ * _) % 256 ^ _ = _
      rw [Int.add_mul_emod_self_left, Int.emod_eq_of_lt b1 b2]
    rw [hm, figs_all (by decide) hd' (.inr ⟨d1 ++ d5, dk, by simp, by omega⟩)]
    have := runs_cat steps d1 (d5 ++ [dk]) [] hs g1 (.stop (parse_none fun d h => ?_))
    · rw [List.append_nil] at this; exact this
    · have hm : d % 128 ∈ a ++ [octV z 1] := by rw [← g3]; exact List.mem_map_of_mem h
      have := hf _ hm
      omega
theorem vl_small {v : Int} (h0 : 0 ≤ v) (h : v < 512) : vl v ≤ 2 := by
  have h1 : Builtin.Int.intBits v ≤ 9 := bits_le h0 (by omega)
  unfold vl; omega
theorem octs_len : ∀ (l : List Int), (∀ v ∈ l, 0 ≤ v ∧ v < 512) → (octsL l).length ≤ 2 * l.length
  | [], _ => Nat.le_refl _
  | v :: l, h => by
    have h1 := vl_small (h v (List.mem_cons_self ..)).1 (h v (List.mem_cons_self ..)).2
    have h2 := octs_len l fun x hx => h x (List.mem_cons_of_mem _ hx)
    have e : octsL (v :: l) = (octJ v).map (octV v) ++ octsL l := by unfold octsL; rw [List.flatMap_cons]
    have e2 : (octJ v).length = vl v := by unfold octJ; simp
    rw [e, List.length_append, List.length_map, List.length_cons, e2]; omega
theorem octs_app (a b : List Int) : octsL (a ++ b) = octsL a ++ octsL b := by unfold octsL; rw [List.flatMap_append]
theorem octs_bd {l : List Int} : ∀ d ∈ octsL l, 0 ≤ d ∧ d < 128 := fun d hd => by
  unfold octsL at hd
  obtain ⟨v, _, h⟩ := List.mem_flatMap.mp hd
  obtain ⟨j, _, rfl⟩ := List.mem_map.mp h
  exact octV_lt v j
noncomputable def rin (pw : List Int) (k r : Nat) : Bool := (pw ++ [1]).contains (((r : Nat) : Int).fmod k)
theorem rin_mod (pw : List Int) (k r : Nat) : rin pw k r = rin pw k (r % k) := by
  unfold rin
  rw [Int.fmod_eq_emod_of_nonneg _ (Int.natCast_nonneg k), Int.fmod_eq_emod_of_nonneg _ (Int.natCast_nonneg k), ← Int.natCast_emod, ← Int.natCast_emod, Nat.mod_mod]
theorem rin_add (pw : List Int) (k r : Nat) : rin pw k (r + k) = rin pw k r := by rw [rin_mod, Nat.add_mod_right, ← rin_mod]
theorem rin_dbl {pw : List Int} {k : Nat} (hk : 0 < k) (h : ∀ r, r < k → rin pw k (r + r) = rin pw k r) (r : Nat) : rin pw k (r + r) = rin pw k r := by
  rw [rin_mod, Nat.add_mod, ← rin_mod, h _ (Nat.mod_lt _ hk), ← rin_mod]
theorem cut_eq {x : List Nat} {p n : Nat} {y : List Nat} (h : ((x.drop p).take n == y) = true) : x = x.take p ++ (y ++ x.drop (p + n)) := by
  rw [← eq_of_beq h, ← List.drop_drop, List.take_append_drop, List.take_append_drop]
theorem rin_after {h s t k : Nat} {pw : List Int} (X : Sg h s t) {u : List Nat} (hd : ∀ r, rin pw k (r + r) = rin pw k r) : ∀ one ∈ afters (h :: u) k s t, rin pw k (one.count s) = rin pw k ((h :: u).count s) := fun one ho => by
  have hu : (h :: u).count s = u.count s := List.count_cons_of_ne X.hs
  have ht : [t].count s = 0 := List.count_eq_zero.mpr (by simp; exact X.st)
  unfold afters at ho
  rcases List.mem_append.mp ho with ho | ho
  · rcases List.mem_append.mp ho with ho | ho
    · unfold after1 at ho
      rcases List.mem_append.mp ho with ho | ho
      · rcases List.mem_cons.mp ho with rfl | ho
        · rfl
        · rw [List.mem_singleton.mp ho, List.count_append, hu]
          exact hd _
      · split at ho
        · rw [List.mem_singleton.mp ho, List.count_append, ht]; rfl
        · cases ho
    · unfold after2 at ho
      obtain ⟨p, hp, rfl⟩ := List.mem_map.mp ho
      have hc := (List.mem_filter.mp hp).2
      rw [Nat.add_sub_cancel_left] at hc
      have e := congrArg (List.count s) (cut_eq hc)
      rw [List.count_append, List.count_append, List.count_replicate_self] at e
      rw [List.count_append, List.count_append, ht, e, ← rin_add]
      congr 1; omega
  · unfold after3 at ho
    obtain ⟨p, hp, rfl⟩ := List.mem_map.mp ho
    have hc := (List.mem_filter.mp hp).2
    rw [Nat.add_sub_cancel_left] at hc
    have e := congrArg (List.count s) (cut_eq hc)
    have e2 : (List.replicate 2 t).count s = 0 := List.count_eq_zero.mpr fun q => X.st (List.eq_of_mem_replicate q)
    rw [List.count_append, List.count_append, e2] at e
    rw [List.count_append, e]
    congr 1; omega
noncomputable def fI (pw : List Int) (k c1 : Nat) : Nat := ((List.range 4).find? fun i => rin pw k (c1 + i)).getD 0
noncomputable def fN (pw : List Int) (k c1 c2 : Nat) : Nat := c1 + fI pw k c1 + k * c2
noncomputable def fM (n k : Nat) : Nat := (minI (((List.range 12).filter (okM n k)).map fun (j : Nat) => (j : Int))).toNat
noncomputable def fQ (n k : Nat) : Nat := (2 ^ fM n k - n) / k
structure Shp (pw : List Int) (k c1 c2 : Nat) : Prop where
  i3 : fI pw k c1 ≤ 3
  hi : ∀ i, i < 4 → i ≤ fI pw k c1 → rin pw k (c1 + i) = decide (i = fI pw k c1)
  m0 : ((List.range 12).filter (okM (fN pw k c1 c2) k)) ≠ []
  m1 : minI (((List.range 12).filter (okM (fN pw k c1 c2) k)).map fun (j : Nat) => (j : Int)) = fM (fN pw k c1 c2) k
  m8 : fM (fN pw k c1 c2) k ≤ 8
  q0 : 2 ^ fM (fN pw k c1 c2) k = fN pw k c1 c2 + k * fQ (fN pw k c1 c2) k
  q1 : fQ (fN pw k c1 c2) k ≤ 60
  n1 : fN pw k c1 c2 ≤ 100
noncomputable def shpDec (pw : List Int) (k c1 c2 : Nat) : Decidable (Shp pw k c1 c2) := decidable_of_iff _ (show (fI pw k c1 ≤ 3 ∧ (∀ i, i < 4 → i ≤ fI pw k c1 → rin pw k (c1 + i) = decide (i = fI pw k c1)) ∧ ((List.range 12).filter (okM (fN pw k c1 c2) k)) ≠ [] ∧ minI (((List.range 12).filter (okM (fN pw k c1 c2) k)).map fun (j : Nat) => (j : Int)) = fM (fN pw k c1 c2) k ∧ fM (fN pw k c1 c2) k ≤ 8 ∧ 2 ^ fM (fN pw k c1 c2) k = fN pw k c1 c2 + k * fQ (fN pw k c1 c2) k ∧ fQ (fN pw k c1 c2) k ≤ 60 ∧ fN pw k c1 c2 ≤ 100) ↔ Shp pw k c1 c2 from ⟨fun ⟨a, b, c, d, e, f, g, i⟩ => ⟨a, b, c, d, e, f, g, i⟩, fun ⟨a, b, c, d, e, f, g, i⟩ => ⟨a, b, c, d, e, f, g, i⟩⟩)
theorem shp3 : ∀ c1, c1 < 6 → ∀ c2, c2 < 6 - c1 → Shp [1, 2] 3 c1 c2 := @of_decide_eq_true _ (@Nat.decidableBallLT 6 _ fun c1 _ => @Nat.decidableBallLT (6 - c1) _ fun c2 _ => shpDec [1, 2] 3 c1 c2) (by kernel_rfl)
theorem shp5 : ∀ c1, c1 < 4 → ∀ c2, c2 < 4 - c1 → Shp [1, 2, 4, 3] 5 c1 c2 := @of_decide_eq_true _ (@Nat.decidableBallLT 4 _ fun c1 _ => @Nat.decidableBallLT (4 - c1) _ fun c2 _ => shpDec [1, 2, 4, 3] 5 c1 c2) (by kernel_rfl)
theorem shp7 : ∀ c1, c1 < 4 → ∀ c2, c2 < 4 - c1 → Shp [1, 2, 4] 7 c1 c2 := @of_decide_eq_true _ (@Nat.decidableBallLT 4 _ fun c1 _ => @Nat.decidableBallLT (4 - c1) _ fun c2 _ => shpDec [1, 2, 4] 7 c1 c2) (by kernel_rfl)
structure KP (k : Nat) (pw : List Int) : Prop where
  k3 : 3 ≤ k
  k7 : k ≤ 7
  dbl : ∀ r, r < k → rin pw k (r + r) = rin pw k r
  shp : ∀ c1 c2, c1 + c2 ≤ (if k == 3 then 5 else 3) → Shp pw k c1 c2
  rs : rsL k pw.length = pw ++ [1]
  ep : (k = 3 ∧ pw = [1, 2]) ∨ (k = 5 ∧ pw = [1, 2, 4, 3]) ∨ (k = 7 ∧ pw = [1, 2, 4])
theorem kp_all (i : Nat) (hi : i < 3) : ∃ k pw, ([3, 5, 7] : List Nat)[i]? = some k ∧ KP k pw := by
  match i, hi with
  | 0, _ => exact ⟨3, [1, 2], rfl, by decide, by decide, by decide +kernel, fun c1 c2 h => (by have h : c1 + c2 ≤ 5 := h; exact shp3 c1 (by omega) c2 (by omega)), by decide +kernel, .inl ⟨rfl, rfl⟩⟩
  | 1, _ => exact ⟨5, [1, 2, 4, 3], rfl, by decide, by decide, by decide +kernel, fun c1 c2 h => (by have h : c1 + c2 ≤ 3 := h; exact shp5 c1 (by omega) c2 (by omega)), by decide +kernel, .inr (.inl ⟨rfl, rfl⟩)⟩
  | 2, _ => exact ⟨7, [1, 2, 4], rfl, by decide, by decide, by decide +kernel, fun c1 c2 h => (by have h : c1 + c2 ≤ 3 := h; exact shp7 c1 (by omega) c2 (by omega)), by decide +kernel, .inr (.inr ⟨rfl, rfl⟩)⟩
theorem filter_len {l : List Nat} (hn : l.Nodup) {a : Nat} (h : a ∈ l) : (l.filter (· != a)).length = l.length - 1 := by
  rw [← List.Nodup.erase_eq_filter hn, List.length_erase_of_mem h]
theorem pool_nodup : poolL.Nodup := by decide
theorem pool_ok : ∀ c ∈ poolL, c ≠ 46 ∧ c < 128 ∧ (c, codeOf c) ∈ tokList ∧ 0 < codeOf c ∧ codeOf c < 64 := by decide +kernel
structure Trio (n2 h s t : Nat) : Prop where
  e1 : poolL[n2 % 23]? = some h
  e2 : (poolL.filter (· != h))[n2 / 23 % 22]? = some s
  e3 : ((poolL.filter (· != h)).filter (· != s))[n2 / 506 % 21]? = some t
  sg : Sg h s t
  hh : h ∈ poolL
  hs : s ∈ poolL
  ht : t ∈ poolL
theorem trio_all (n2 : Nat) : ∃ h s t, Trio n2 h s t := by
  have l0 : poolL.length = 23 := rfl
  have i1 : n2 % 23 < poolL.length := by rw [l0]; exact Nat.mod_lt _ (by decide)
  have m1 : poolL[n2 % 23] ∈ poolL := List.getElem_mem i1
  have e1 : poolL[n2 % 23]? = some poolL[n2 % 23] := List.getElem?_eq_getElem i1
  generalize poolL[n2 % 23] = h at m1 e1
  have l1 : (poolL.filter (· != h)).length = 22 := by rw [filter_len pool_nodup m1, l0]
  have d1 : (poolL.filter (· != h)).Nodup := pool_nodup.filter _
  have i2 : n2 / 23 % 22 < (poolL.filter (· != h)).length := by rw [l1]; exact Nat.mod_lt _ (by decide)
  have m2 : (poolL.filter (· != h))[n2 / 23 % 22] ∈ poolL.filter (· != h) := List.getElem_mem i2
  have e2 : (poolL.filter (· != h))[n2 / 23 % 22]? = some (poolL.filter (· != h))[n2 / 23 % 22] := List.getElem?_eq_getElem i2
  generalize (poolL.filter (· != h))[n2 / 23 % 22] = s at m2 e2
  have l2 : ((poolL.filter (· != h)).filter (· != s)).length = 21 := by rw [filter_len d1 m2, l1]
  have i3 : n2 / 506 % 21 < ((poolL.filter (· != h)).filter (· != s)).length := by rw [l2]; exact Nat.mod_lt _ (by decide)
  have m3 : ((poolL.filter (· != h)).filter (· != s))[n2 / 506 % 21] ∈ (poolL.filter (· != h)).filter (· != s) := List.getElem_mem i3
  have e3 : ((poolL.filter (· != h)).filter (· != s))[n2 / 506 % 21]? = some ((poolL.filter (· != h)).filter (· != s))[n2 / 506 % 21] := List.getElem?_eq_getElem i3
  generalize ((poolL.filter (· != h)).filter (· != s))[n2 / 506 % 21] = t at m3 e3
  have s2 := List.mem_filter.mp m2
  have t1 := List.mem_filter.mp m3
  have t2 := List.mem_filter.mp t1.1
  exact ⟨h, s, t, e1, e2, e3, ⟨Ne.symm (bne_iff_ne.mp s2.2), Ne.symm (bne_iff_ne.mp t2.2), Ne.symm (bne_iff_ne.mp t1.2), (pool_ok h m1).1, (pool_ok s s2.1).1, (pool_ok t t2.1).1⟩, m1, s2.1, t2.1⟩
theorem Der.bd {k h s t : Nat} {T T' : List Nat} {p : Int × Int} (D : Der k h s t T p T') : (0 ≤ p.1 ∧ p.1 < 512) ∧ (0 ≤ p.2 ∧ p.2 < 512) := by
  cases D with
  | a u => exact ⟨⟨by decide, by decide⟩, by decide, by decide⟩
  | b u => exact ⟨⟨by decide, by decide⟩, by decide, by decide⟩
  | c u B hu => exact ⟨⟨by show (0 : Int) ≤ ((u.length + 1 : Nat) : Int); omega, by show ((u.length + 1 : Nat) : Int) < 512; omega⟩, by show (0 : Int) ≤ 258; decide, by show (258 : Int) < 512; decide⟩
  | d u B hu => exact ⟨⟨by show (0 : Int) ≤ ((u.length + 1 : Nat) : Int); omega, by show ((u.length + 1 : Nat) : Int) < 512; omega⟩, by show (0 : Int) ≤ 259; decide, by show (259 : Int) < 512; decide⟩
theorem txt_shape (h s t n1 nf i : Nat) : ∃ u, txtI h s t n1 nf i = h :: (u ++ List.replicate i s) ∧ (∀ c ∈ u, c = s ∨ c = t) ∧ u.length ≤ nf ∧ (sgns s t n1 nf).flatten = u := by
  refine ⟨(sgns s t n1 nf).flatten, by unfold txtI txt0; simp, fun c hc => ?_, ?_, rfl⟩
  · obtain ⟨l, hl, hc⟩ := List.mem_flatten.mp hc
    obtain ⟨j, _, rfl⟩ := List.mem_map.mp hl
    unfold sgn at hc
    split at hc
    · cases hc
    · split at hc
      · exact .inl (List.mem_singleton.mp hc)
      · exact .inr (List.mem_singleton.mp hc)
  · have := sum_le1 _ (sgns_le s t n1 nf)
    rw [sgns_length] at this
    rw [List.length_flatten]; exact this
theorem cnt_le {s t : Nat} (h : s ≠ t) : ∀ u : List Nat, u.count s + u.count t ≤ u.length
  | [] => Nat.le_refl _
  | c :: u => by
    have ih := cnt_le h u
    rw [List.count_cons, List.count_cons, List.length_cons]
    by_cases e : c = s
    · have : ¬ (c == t) = true := by simp; omega
      rw [if_neg this]; split <;> omega
    · have : ¬ (c == s) = true := by simpa using e
      rw [if_neg this]; split <;> omega
theorem ld_all {h s t k w n2 n3 m q n : Nat} {u : List Nat} (X : Sg h s t) (hh : h ∈ poolL) (hs : s ∈ poolL) (ht : t ∈ poolL) (hu : ∀ c ∈ u, c = s ∨ c = t) (hw : w ≤ 9) (hw6 : 6 ≤ w) (hk3 : 3 ≤ k) (hk7 : k ≤ 7) (hx : n2 < 2 ^ 26) (hx0 : 0 < n2) (hul : u.length ≤ 8) (hn : u.count s + k * u.count t = n) (hm : 2 ^ m = n + k * q) (hm8 : m ≤ 8) (hq : q ≤ 60) (hnn : n ≤ 100) :
    (∃ T N, LD (h :: u) h s t k w n2 codeOf (allP t n m q u) (octsL (unpair (allP t n m q u) ++ [64 * (n2 : Int) + k])) (proofL n3 (octsL (unpair (allP t n m q u) ++ [64 * (n2 : Int) + k]))) T N) ∧ ∀ i ∈ unpair (allP t n m q u) ++ [64 * (n2 : Int) + k], Bz 40 i := by
  have ph := pool_ok h hh
  have ps := pool_ok s hs
  have pt := pool_ok t ht
  have hp2 : 2 ^ m ≤ 2 ^ 8 := Nat.pow_le_pow_right (by decide) hm8
  have D := ders_all (k := k) (n := n) X (by omega) hu hn hm (by omega) (by omega) (by omega)
  obtain ⟨T, T0, Tl, TT, TD⟩ := D.path
  have hlen := allP_len (t := t) (u := u) (m := m) (q := q) (n := n)
  generalize allP t n m q u = P at *
  have p64 : (64 : Int) ≤ 2 ^ w := by
    have : 2 ^ 6 ≤ 2 ^ w := Nat.pow_le_pow_right (by decide) hw6
    exact_mod_cast this
  have wl : Wl w codeOf [h, s, t] := fun c hc => by
    simp only [List.mem_cons, List.not_mem_nil, or_false] at hc
    rcases hc with rfl | rfl | rfl <;> omega
  have tx : Tx h s t (h :: u) := tx_of hu (by omega)
  have wt := tx.wl wl
  have htk : ∀ c ∈ h :: u, c ∈ poolL := fun c hc => by
    rcases List.mem_cons.mp hc with rfl | hc
    · exact hh
    · rcases hu c hc with rfl | rfl
      · exact hs
      · exact ht
  have hb : ∀ v ∈ unpair P, 0 ≤ v ∧ v < 512 := fun v hv => by
    unfold unpair at hv
    obtain ⟨p, hp, hv⟩ := List.mem_flatMap.mp hv
    obtain ⟨i, hi⟩ := List.mem_iff_getElem?.mp hp
    have b := (TD i p hi).bd
    simp only [List.mem_cons, List.not_mem_nil, or_false] at hv
    rcases hv with rfl | rfl
    · exact b.1
    · exact b.2
  have hz : (64 : Int) ≤ 64 * (n2 : Int) + k := by omega
  have hzb : Bz 40 (64 * (n2 : Int) + k) := .lt (by omega) (by omega)
  have hbz : ∀ i ∈ unpair P ++ [64 * (n2 : Int) + k], Bz 40 i := fun i hi => by
    rcases List.mem_append.mp hi with hi | hi
    · have := hb i hi
      exact .lt this.1 (by omega)
    · rw [List.mem_singleton.mp hi]; exact hzb
  refine ⟨⟨T, fun i => val w codeOf (T i), ?_⟩, hbz⟩
  have ob := octs_bd (l := unpair P ++ [64 * (n2 : Int) + k])
  have R := proof_runs (ds := noisy n3 (octsL (unpair P ++ [64 * (n2 : Int) + k]))) (steps := unpair P) (z := 64 * (n2 : Int) + k) (noisy_bd ob) (noisy_mod ob) (fun v hv => (hb v hv).1) hz (by omega)
  rw [← proof_dig, noisy_len] at R
  have ol : (octsL (unpair P ++ [64 * (n2 : Int) + k])).length ≤ 2 * (2 * P.length) + 7 := by
    have e1 := octs_len _ hb
    have e2 : (octsL [64 * (n2 : Int) + k]).length ≤ 7 := by
      have : (octsL [64 * (n2 : Int) + k]) = (octJ (64 * (n2 : Int) + k)).map (octV (64 * (n2 : Int) + k)) := by unfold octsL; rw [List.flatMap_singleton]
      rw [this, List.length_map]
      have := vl_le hzb
      unfold octJ; simpa using this
    rw [unpair_len] at e1
    rw [octs_app, List.length_append]; omega
  have o1 : 0 < (octsL (unpair P ++ [64 * (n2 : Int) + k])).length := by
    rw [octs_app, List.length_append]
    have : (octsL [64 * (n2 : Int) + k]) = ocs (64 * (n2 : Int) + k) (vl (64 * (n2 : Int) + k) - 1) := by unfold octsL; rw [List.flatMap_singleton, ocs_eq]
    rw [this]
    cases vl (64 * (n2 : Int) + k) - 1 <;> simp [ocs] <;> omega
  have hd := dig_lt 8 _ (noisy_bd (n3 := n3) ob)
  rw [← proof_dig, noisy_len] at hd
  have vt := val_bd wt
  exact {
    hw := hw, hw0 := by omega, hk := by omega, hx := hx, th := ph.2.2.1, ts := ps.2.2.1, tt := pt.2.2.1
    sgn := fun c hc => (pool_ok c (htk c hc)).2.1
    szT := .mk tx.2
    p0 := hd.1
    pb := Nat.le_trans (bits_le hd.1 hd.2) (by omega)
    r1 := R.1, r2 := R.2
    lps := by omega
    loc := ⟨o1, by omega⟩
    hc0 := by omega
    hc1 := by omega
    hc2 := by omega
    bc := fun c hc => by
      have := pool_ok c (htk c hc)
      exact .lt (by omega) (by omega)
    bc2 := .lt (by omega) (by omega)
    hT0 := T0
    hN0 := by
      show val w codeOf (T 0) = _
      rw [T0, show [h, s] = [h] ++ [s] from rfl, val_app, val_one, val_one, List.length_singleton, Int.pow_succ, Int.pow_zero, Int.one_mul]
    hsz := fun i hi => .mk (TT i hi).2
    hP := fun i p hp => (TD i p hp).pd X hw wl (TT i (Nat.le_of_lt (List.getElem?_eq_some_iff.mp hp).1))
    hNe := by show 0 ≤ val w codeOf (T P.length); rw [Tl]; exact vt.1
    bNe := by
      show Bz 3800 (val w codeOf (T P.length))
      rw [Tl]; exact val_bz wt (by have := mul9 hw tx.2; omega)
    eT := Tl
    eN := by
      show val w codeOf (T P.length) = _
      rw [Tl]
      have := sum_dig w (·.1) ((h :: u).reverse.map codeOf) 0
      rw [Nat.mul_zero, Int.pow_zero, Int.one_mul, show List.map (fun x : Int × Nat => x.1) ((h :: u).reverse.map codeOf).zipIdx = (h :: u).reverse.map codeOf from List.zipIdx_map_fst ..] at this
      exact this.symm
    eF := by
      show figs w (i2dLen (val w codeOf (T P.length)) w) (val w codeOf (T P.length)) = _
      rw [Tl]
      exact figs_all (by omega) wt.rev (.inr ⟨u.reverse.map codeOf, codeOf h, by simp, ph.2.2.2.1⟩) }
theorem facts (n0 n1 n2 n3 : Nat) (hx : n2 < 2 ^ 26) (hx0 : 0 < n2) : Facts n0 n1 n2 n3 := by
  obtain ⟨k, pw, ek, K⟩ := kp_all (n0 % 3) (Nat.mod_lt _ (by decide))
  obtain ⟨h, s, t, X⟩ := trio_all n2
  obtain ⟨u, _, hu, ul, eu⟩ := txt_shape h s t n1 (if k == 3 then 5 else 3) 0
  have eI : ∀ i, txtI h s t n1 (if k == 3 then 5 else 3) i = h :: (u ++ List.replicate i s) := fun i => by
    obtain ⟨u', e', _, _, q⟩ := txt_shape h s t n1 (if k == 3 then 5 else 3) i
    rw [e', ← q, eu]
  have nf5 : (if k == 3 then 5 else 3) ≤ 5 := by split <;> decide
  generalize hnf : (if k == 3 then 5 else 3) = nf at *
  have cl := cnt_le X.sg.st u
  have S := K.shp (u.count s) (u.count t) (by omega)
  obtain ⟨i3, hi, m0, m1, m8, q0, q1, n1'⟩ := S
  have K3 := K.k3
  have K7 := K.k7
  have cs : ∀ i, (h :: (u ++ List.replicate i s)).count s = u.count s + i := fun i => by
    rw [List.count_cons_of_ne X.sg.hs, List.count_append, List.count_replicate_self]
  have ct : ∀ i, (h :: (u ++ List.replicate i s)).count t = u.count t := fun i => by
    rw [List.count_cons_of_ne X.sg.ht, List.count_append, List.count_eq_zero.mpr fun q => X.sg.st (List.eq_of_mem_replicate q).symm, Nat.add_zero]
  have hst : ∀ i, ∀ c ∈ u ++ List.replicate i s, c = s ∨ c = t := fun i => st_app hu st_rep
  generalize ei : fI pw k (u.count s) = i0 at *
  have en : fN pw k (u.count s) (u.count t) = u.count s + i0 + k * u.count t := by unfold fN; rw [ei]
  rw [en] at m0 m1 m8 q0 q1 n1'
  have ecn : (u ++ List.replicate i0 s).count s + k * (u ++ List.replicate i0 s).count t = u.count s + i0 + k * u.count t := by
    have a := cs i0
    have b := ct i0
    rw [List.count_cons_of_ne X.sg.hs] at a
    rw [List.count_cons_of_ne X.sg.ht] at b
    rw [a, b]
  obtain ⟨⟨T, N, L⟩, hb⟩ := ld_all (n3 := n3) (w := 6 + n0 / 3 % 4) X.sg X.hh X.hs X.ht (hst i0) (by omega) (by omega) K3 K7 hx hx0 (by simp; omega) ecn q0 m8 q1 n1'
  have dbl := rin_dbl (by omega) K.dbl
  refine ⟨k, h, s, t, nf, i0, fM (u.count s + i0 + k * u.count t) k, fQ (u.count s + i0 + k * u.count t) k, pw, _, T, N, ek, K.ep, X.e1, X.e2, X.e3, by rw [eI]; exact L, fun c hc => ?_, ?_, by omega, ?_, by omega, ?_, hb, i3, hnf.symm, K.rs, fun i _ => ?_, fun i hi0 one ho => ?_⟩
  · rw [eI] at hc
    rcases List.mem_cons.mp hc with rfl | hc
    · exact (pool_ok _ X.hh).2.2.1
    · rcases hst i0 c hc with rfl | rfl
      · exact (pool_ok _ X.hs).2.2.1
      · exact (pool_ok _ X.ht).2.2.1
  · rw [eI, cs, ct]; exact ⟨m0, m1⟩
  · rw [eI, cs, ct]
    have : ((2 ^ fM (u.count s + i0 + k * u.count t) k : Nat) : Int) = ((u.count s + i0 + k * u.count t + k * fQ (u.count s + i0 + k * u.count t) k : Nat) : Int) := congrArg _ q0
    rw [Int.natCast_pow, Int.natCast_add _ (k * _), Int.natCast_mul k (fQ _ _)] at this
    rw [show ((2 : Int) ^ fM (u.count s + i0 + k * u.count t) k) = _ from this]; omega
  · rw [eI, cs, ct]; exact all_steps
  · rw [eI]; exact hE_all X.sg (hst i)
  · rw [eI] at ho
    have := rin_after (pw := pw) X.sg dbl one ho
    rw [cs, hi i (by omega) hi0] at this
    exact this
section
variable {C : Base} {k : Nat} {F : Fn} {ρ : Rho} {prog : Program} {A : Around} {Q : Flow → Shared → Prop} {E : Value → Shared → Prop} {rest : List Stmt} {Mu : Addr → Prop} {F₀ : Fn}
theorem enum_at {ys : List Int} {i : Nat} {d : D} (h : (enumL (ys.map .int))[i]? = some d) : d = .tup [.int i, .int (ys.getD i 0)] ∧ i < ys.length := by
  rw [enumL_int, List.getElem?_map, List.getElem?_zipIdx] at h
  cases q : ys[i]? with
  | none => rw [q] at h; cases h
  | some a =>
    rw [q] at h
    refine ⟨?_, (List.getElem?_eq_some_iff.mp q).1⟩
    rw [List.getD_eq_getElem?_getD, q]
    simp at h
    exact h.symm
theorem len4 {l : List Int} (h : l.length = 4) (hp : ∀ a ∈ l, 0 ≤ a) : ∃ n0 n1 n2 n3 : Nat, l = [(n0 : Int), n1, n2, n3] := by
  match l, h with
  | [a, b, c, d], _ =>
    have ha := hp a (by simp)
    have hb := hp b (by simp)
    have hc := hp c (by simp)
    have hd := hp d (by simp)
    exact ⟨a.toNat, b.toNat, c.toNat, d.toNat, by rw [Int.toNat_of_nonneg ha, Int.toNat_of_nonneg hb, Int.toNat_of_nonneg hc, Int.toNat_of_nonneg hd]⟩
theorem numsL_pos (xs : List Int) : ∀ i, 0 < (numsL xs i).getD 2 0
  | 0 => by show (0 : Int) < 7864; decide
  | i + 1 => by
    have ih := numsL_pos xs i
    have hx : 0 ≤ (xs.getD i 0).fmod (10 ^ 6) := by
      rw [Int.fmod_eq_emod_of_nonneg _ (by decide)]; omega
    have hl : i % 4 < (numsL xs i).length := by rw [numsL_len]; omega
    rw [numsL, List.getD_eq_getElem?_getD, List.getElem?_set]
    by_cases h : i % 4 = 2
    · rw [if_pos h, if_pos hl, h]
      show 0 < (numsL xs i).getD 2 0 + _
      omega
    · rw [if_neg h, ← List.getD_eq_getElem?_getD]; exact ih
theorem law_a1 (G : PGD C) (S : Sub F₀ F) (hO : ∀ a, F₀.own a → a = F₀.env.locals ∨ ∃ x, F₀.env.cells.lookup x = some a) (hsc : F.env.scope = sc (stmtAt 73)) (hcs : ∀ x, (sc (stmtAt 73)).names.lookup x = some .cell → ∃ c, CellOK F x c) (hA : Rm 22 A) (hfr : A.frames = some [F.env]) (hF : F.env.frame = some F.env.locals)
    {xs : List Int} (hx : xs.length ≤ 63) (hfacts : ∀ n0 n1 n2 n3 : Nat, n2 < 2 ^ 26 → 0 < n2 → Facts n0 n1 n2 n3) :
    XS prog C A F [("script", .list (xs.map .int))] (bd (stmtAt 73)) (Ret C F₀ (.bool true)) NoE := by
  have G' := G.toPG
  have H := S.fok
  obtain ⟨cn, Kn⟩ := hcs "numbers" (by decide +kernel)
  refine XS.ownC S (ds := ([0, 16, 7864, 1] : List Int).map .int) Kn hA (EVF.lst (by walk_at "evs") (Nat.le_of_ble_eq_true rfl)) rfl (by walk_at "ne") fun F₁ S₁ up => ?_
  have e1 : F₁.env = F.env := S₁.env.trans S.env.symm
  have H₁ := S₁.fok
  have hsc₁ : F₁.env.scope = sc (stmtAt 73) := by rw [e1]; exact hsc
  generalize hys : xs.take 60 = ys
  have lys : ys.length ≤ 60 := by rw [← hys, List.length_take]; omega
  refine XS.for H₁ hA (ds := enumL (ys.map .int)) (ρs := fun i => [("numbers", .own ((numsL ys i).map .int))]) (ρ' := [("numbers", .own ((numsL ys (enumL (ys.map .int)).length).map .int))]) (dr := .bool true) (SrcE.enum H₁ (by walk_at "kd") (EV.toL (EV.slicel (lo := none) (st := none) (l := none) (u := some ((60 : Nat) : Int)) (t := none) H₁ (by walk_at "ev") trivial (EV.int 60) trivial (by decide) (by rw [List.length_map]; omega) (fun o i => ⟨_, rfl⟩)) (by rw [picks_to, ← hys, List.map_take]))) (by walk_at "sub") (fun i d hd => ?_) (fun p hp => hp) (Ret.up S₁) ?_
  · obtain ⟨rfl, hi⟩ := enum_at hd
    refine ⟨("x", .int (ys.getD i 0)) :: ("place", .int i) :: [("numbers", .own ((numsL ys i).map .int))], fun F₂ L => ?_, fun F₂ L => ?_⟩
    · exact Asg.tup L.fok (AsgL.cons (fun F₃ L₃ => Asg.name L₃.fok (by rw [L₃.env, L.env]; exact kd hsc₁ (by decide +kernel)) (by walk_at "ne")) rfl (AsgL.cons (fun F₃ L₃ => Asg.name L₃.fok (by rw [L₃.env, L.env]; exact kd hsc₁ (by decide +kernel)) (by walk_at "ne")) rfl AsgL.nil))
    · have H₂ := L.fok
      have l4 : i % 4 < (numsL ys i).length := by rw [numsL_len]; omega
      have i4 : ((i : Nat) : Int).fmod 4 = ((i % 4 : Nat) : Int) := by rw [Int.fmod_eq_emod_of_nonneg _ (by decide)]; omega
      refine XS.augItem H₂ (x := "numbers") (ds := (numsL ys i).map .int) (a := (numsL ys i).getD (i % 4) 0) (b := (ys.getD i 0).fmod (10 ^ 6)) (iv := i % 4) (ρ' := []) hA (by walk_at "mem") (EV.toI (EV.bin H₂ (by walk_at "ev") (by walk_at "ev") (T2.fmod (by decide))) i4) (by rw [List.getElem?_map, List.getElem?_eq_getElem l4, List.getD_eq_getElem?_getD, List.getElem?_eq_getElem l4]; rfl) (EV.bin H₂ (by walk_at "ev") (EV.bin H₂ (by walk_at "ev") (by walk_at "ev") (T2.powk (a := 10) (j := 6) (by decide) (by decide))) (T2.fmod (by decide))) (by rw [List.length_map, numsL_len]; decide) (fun _ h => nomatch h) ?_
      refine XS.nil fun s hs => ?_
      have e : ((numsL ys i).map D.int).set (i % 4) (.int ((numsL ys i).getD (i % 4) 0 + (ys.getD i 0).fmod (10 ^ 6))) = (numsL ys (i + 1)).map .int := by
        rw [numsL, List.map_set]
      rw [e] at hs
      exact hs
  have ld : (enumL (ys.map .int)).length ≤ 60 := by rw [enumL_int]; simp; exact lys
  generalize hN : (enumL (ys.map .int)).length = nN at ld
  obtain ⟨n0, n1, n2, n3, e4⟩ := len4 (numsL_len ys nN) fun a ha => (numsL_bd ys nN a ha).1
  have hb2 : n2 < 2 ^ 26 := by
    have := (numsL_bd ys nN n2 (by rw [e4]; simp)).2
    omega
  have hp2 : 0 < n2 := by
    have := numsL_pos ys nN
    rw [e4] at this
    have : (0 : Int) < (n2 : Int) := this
    omega
  rw [e4]
  refine XS.freezeK S₁ hO (x := "numbers") (ρ₂ := [("numbers", .list (([n0, n1, n2, n3] : List Int).map .int))]) (List.Mem.head _) (by walk_at "frz") fun F₂ S₂ up₂ => ?_
  have e2 : F₂.env = F.env := S₂.env.trans S.env.symm
  obtain ⟨k, h, s, t, nf, i0, m, q, pw, ps, T, N, X⟩ := hfacts n0 n1 n2 n3 hb2 hp2
  exact law_a2 G S₂ hO (by rw [e2]; exact hsc) (fun x hx => let ⟨c, K⟩ := hcs x hx; ⟨c, up₂ _ _ (up _ _ K)⟩) hA (by rw [e2]; exact hfr) (by rw [e2]; exact hF) rfl X
theorem call_cellsK {a : Addr} {fd : FuncData} {body : List Stmt} {names : List Str} {ds : List D} {d : D} (hfd : C.FD a = some fd) (hbody : fd.body = .stmts body) (hclo : fd.closure = [])
    (hbind : ∀ vs : List Value, vs.length = ds.length → bindArgs fd ⟨vs, []⟩ = pure (names.zip vs)) (hlen : names.length = ds.length) (hnd : names.Nodup)
    (hloc : ∀ x ∈ names, fd.scope.names.lookup x = some .local ∨ fd.scope.names.lookup x = some .cell)
    (hg : fd.globals = mainGlobals) (hbi : fd.builtins = builtinsNs) (hco : fd.scope.isCoroutine = false) (hgen : fd.scope.isGenerator = false) (hk : fd.scope.kind = .function)
    {s : Shared} {vs : List Value} {Q : Value → Shared → Prop} {E : Value → Shared → Prop} (hA : Rm (k + 1) A) (ho : OK C Mu s) (r : RepL (vis Mu s.heap) vs ds) (hQ : ∀ v s', Step s s' → Rep (vis Mu s'.heap) v d → Q v s')
    (h : ∀ (F : Fn) (L : Addr) (h₀ : Heap), F.env = callEnvC fd L a → F.env.locals = L → Made C Mu h₀ F → (∀ x, fd.scope.names.lookup x = some .cell → ∃ c, CellOK F x c) → Rm k (A.deeper F.env) →
      XS prog C (A.deeper F.env) F (names.zip ds) body (Ret C F d) NoE) :
    wpAny (model prog C.w) A (call (.ref a) vs) Q E s := by
  obtain ⟨o, hobj, hdat, hcd⟩ := C.fn _ _ hfd
  have hl := r.length
  have has : ∀ x, fd.scope.names.lookup x = some .cell → ∃ c, (cellsFrom (s.heap.objs.size + 1) fd.scope.names []).lookup x = some c := fun x hx => by
    obtain ⟨c, hc⟩ := cellsFrom_has (n := s.heap.objs.size + 1) (acc := []) (.inl (lookup_mem hx))
    exact mem_lookup hc
  refine wpAny_call (codeAny_call_cells hA.room (ho.keep _ _ hobj) hdat (C.nolimit.keeps ho.keep) (hcd.keeps ho.keep) hbody (hbind vs hl) hclo (fun x hx => ?_) (fun s₁ x₁ => ?_) hco hgen hk)
  · rcases hloc _ (List.of_mem_zip hx).1 with q | q
    · exact .inl q
    · obtain ⟨c, hc⟩ := has _ q
      exact .inr ⟨q, by rw [hc]; rfl⟩
  obtain ⟨h₁, tk₁, e₁⟩ := x₁.toInCall.same
  have kp : ∀ b ob, s.heap.get? b = some ob → h₁.get? b = some ob := fun b ob e => by have := x₁.toInCall.keep b ob e; rw [e₁] at this; exact this
  have hns : h₁.Ns s.heap.objs.size (bindL (callEnvC fd s.heap.objs.size a).kindOf (names.zip vs) fun _ => none) := by have := x₁.toInCall.ns; rw [e₁] at this; exact this
  have hcs : ∀ n c, (callEnvC fd s.heap.objs.size a).cells.lookup n = some c → h₁.IsCell c (bindC (callEnvC fd s.heap.objs.size a).kindOf (names.zip vs) (fun _ => none) n) := fun n c e => by have := x₁.cell n c e; rw [e₁] at this; exact this
  have hap := x₁.apart
  have hab : ∀ n c, (callEnvC fd s.heap.objs.size a).cells.lookup n = some c → s.heap.objs.size < c := fun n c e => x₁.above n c (lookup_mem e)
  subst e₁
  let own : Addr → Prop := fun b => b = s.heap.objs.size ∨ ∃ x, (callEnvC fd s.heap.objs.size a).cells.lookup x = some b
  have on : ∀ b, own b → s.heap.get? b = none := by
    rintro b (rfl | ⟨x, e⟩)
    · exact none_of_le (Nat.le_refl _)
    · exact none_of_le (Nat.le_of_lt (hab x b e))
  let F : Fn := ⟨callEnvC fd s.heap.objs.size a, fun b => Mu b ∨ own b, fun b ob => ¬ isTab b ∧ s.heap.get? b = some ob, s.heap, own⟩
  have M : Made C Mu s.heap F := ⟨⟨⟨hk, .inl rfl, fun b hb => .inr hb, fun b ob e hb => (by
    have h2 : s.heap.get? b = some ob := e.2
    rw [on b hb] at h2; cases h2), hg, hbi⟩, fun b ob e => e.1⟩, fun b hb => .inl hb, fun b ob nt e => ⟨nt, e⟩, rfl, fun b hb => hb, fun b t => .inl (ho.tab b t)⟩
  have ol : ∀ b, own b → ∃ ob, h₁.get? b = some ob := by
    rintro b (rfl | ⟨x, e⟩)
    · obtain ⟨ob, _, _, e, _⟩ := hns; exact ⟨ob, e⟩
    · obtain ⟨ob, e, _⟩ := hcs x b e; exact ⟨ob, e⟩
  have oc : ∀ b, own b → ∀ q, ¬ h₁.CodeRec (.ref b) q := by
    rintro b (rfl | ⟨x, e⟩)
    · obtain ⟨ob, es, ep, e, hd, _⟩ := hns
      exact notCode e fun vs q t hf => by rw [hd] at hf; cases hf
    · obtain ⟨ob, e, hd⟩ := hcs x b e
      exact notCode e fun vs q t hf => by rw [hd] at hf; cases hf
  have ok1 : OK C F.Mu { s with heap := h₁, toks := tk₁ } := (ho.step (Step.of kp)).add own
    (fun b hb => by
      cases q : C.hb.get? b with
      | none => rfl
      | some ob => have := ho.keep _ _ q; rw [on b hb] at this; cases this) ol oc
  have hv : ∀ b ob, vis Mu s.heap b ob → vis F.Mu h₁ b ob := fun b ob v => ⟨fun hm => hm.elim v.1 fun q => (by
    have h2 := v.2
    rw [on b q] at h2; cases h2), kp _ _ v.2⟩
  have hnd' : ((names.zip vs).map (·.1)).Nodup := by rw [List.map_fst_zip (by omega)]; exact hnd
  have st : St C F (names.zip ds) { s with heap := h₁, toks := tk₁ } := by
    refine ⟨ok1, fun b ob e => kp b ob e.2, ⟨fun b ob e => ⟨ob, kp b ob e⟩, fun P hP => .inl ?_⟩, fun x c e => ⟨_, hcs x c e⟩, _, hns, fun p hp => ?_⟩
    · obtain ⟨ob, e⟩ := tab_live ho.tabs P hP
      exact (kp _ _ e).trans e.symm
    · obtain ⟨v, rv, lk⟩ := r.zipHas (by omega) hnd p hp
      have hm : (p.1, v) ∈ names.zip vs := List.mem_reverse.mp (lookup_mem lk)
      refine ⟨v, .of (rv.mono hv), ?_⟩
      rcases hloc _ (List.of_mem_zip hp).1 with q | q
      · exact .inl ⟨q, (bindL_spec hnd').1 _ _ hm q⟩
      · obtain ⟨c, hc⟩ := has _ q
        refine .inr ⟨.inl q, c, hc, ?_⟩
        have := hcs p.1 c hc
        rw [(bindC_spec (ko := (callEnvC fd s.heap.objs.size a).kindOf) hnd').1 _ _ hm (fun e => by rw [show (callEnvC fd s.heap.objs.size a).kindOf p.1 = some NameKind.cell from q] at e; cases e)] at this
        exact this
  refine wpAny_mono (h F _ _ rfl rfl M (fun x hx => ?_) hA.deeper _ st) (fun f s' q => ?_) fun _ _ q => q.elim
  · obtain ⟨c, hc⟩ := has x hx
    exact ⟨c, hx, hc, .inr ⟨x, hc⟩, fun y hy => name_of_addr hap (lookup_mem hy) (lookup_mem hc)⟩
  obtain ⟨v, rfl, st', rv⟩ := q
  exact hQ v s' (M.step ho st') (rv.mono fun b ob v => ⟨fun hm => v.1 (.inl hm), v.2⟩)
theorem law_call (G : PGD C) {s : Shared} {xs : List Int} {v : Value} {Q : Value → Shared → Prop} {E : Value → Shared → Prop} (hA : Rm 23 A) (hfr : A.frames = some []) (ho : OK C Mu s) (r : Rep (vis Mu s.heap) v (.list (xs.map .int))) (hx : xs.length ≤ 63) (hfacts : ∀ n0 n1 n2 n3 : Nat, n2 < 2 ^ 26 → 0 < n2 → Facts n0 n1 n2 n3)
    (hQ : ∀ s', Step s s' → Q (.bool true) s') : wpAny (model prog C.w) A (call (.ref 123) [v]) Q E s := by
  obtain ⟨pm, hfd⟩ := G.fd (123, 73, 122) (by decide)
  have hok : okDefC 73 ["script"] = true := by decide +kernel
  simp only [okDefC, Bool.and_eq_true, Bool.or_eq_true, Bool.not_eq_true', beq_iff_eq, List.all_eq_true, decide_eq_true_eq, bne_iff_ne] at hok
  obtain ⟨⟨⟨⟨h1, h3⟩, h4⟩, h5⟩, h6⟩ := hok
  refine call_cellsK (names := ["script"]) (ds := [.list (xs.map .int)]) (d := .bool true) hfd rfl rfl (fun vs hv => by obtain ⟨a, rfl⟩ := len1 hv; kernel_rfl) rfl h6 h1 rfl rfl h3 h4 h5 hA ho (.cons r .nil) (fun v s' st rv => by rw [rv.bool_i]; exact hQ s' st) fun F L h₀ he hl M hcs hA' => ?_
  have hF : F.env.frame = some F.env.locals := by rw [he]; rfl
  have hfr' : (A.deeper F.env).frames = some [F.env] := by show (A.frames.map (F.env :: ·)) = _; rw [hfr]; rfl
  exact law_a1 G (Sub.refl M) M.ownC (by rw [he]; rfl) hcs hA' hfr' hF hx hfacts
end
set_option maxHeartbeats 8000000
set_option tactic.hygienic true
structure HK (P : Params) (h : Heap) : Prop where
  ns : ∃ m mb, h.Ns mainGlobals m ∧ h.Ns builtinsNs mb ∧ (∀ p ∈ defNames, m p.1 = some (.ref p.2)) ∧ (∀ p ∈ numList, ∃ t, m p.1 = some (.int p.2 t)) ∧ (∃ t, m "ELLIPSIS_MARKER" = some (.str (mkS [46, 46, 46]) t)) ∧ ∀ p ∈ biList, m p.1 = none ∧ mb p.1 = some p.2
  fns : ∀ p ∈ defList, ∃ o fd, h.get? p.1 = some o ∧ o.data = .func fd ∧ fd.code = .ref p.2.2 ∧ fd.doc = .none
  c41 : ∃ o vs, h.get? 41 = some o ∧ o.data = .fields vs ∧ vs[11]? = some (.ref 37)
  c48 : ∃ o vs, h.get? 48 = some o ∧ o.data = .fields vs ∧ vs[11]? = some (.ref 44)
  dict : ∃ es n, h.get? 71 = some ⟨.type "dict", none, .dict es n, #[]⟩ ∧ KeysLit P es.toList ∧ ∀ p ∈ tokList, ∃ t, findBy Value.isStrOf es (mkS [p.1]) = some (.int p.2 t)
theorem HK.keeps {P : Params} {h h' : Heap} (X : HK P h) (k : ∀ b o, h.get? b = some o → h'.get? b = some o) : HK P h' :=
  ⟨let ⟨m, mb, a, b, r⟩ := X.ns; ⟨m, mb, a.keeps k, b.keeps k, r⟩, fun p hp => let ⟨o, fd, e, r⟩ := X.fns p hp; ⟨o, fd, k _ _ e, r⟩,
    let ⟨o, vs, e, r⟩ := X.c41; ⟨o, vs, k _ _ e, r⟩, let ⟨o, vs, e, r⟩ := X.c48; ⟨o, vs, k _ _ e, r⟩, let ⟨es, n, e, r⟩ := X.dict; ⟨es, n, k _ _ e, r⟩⟩
theorem hkTab_of {h : Heap} {c : Addr} {v : Value} (e : hkTab h c = some v) : ∃ o vs, h.get? c = some o ∧ o.data = .fields vs ∧ vs[11]? = some v := by
  unfold hkTab at e
  cases q : h.get? c with
  | none => rw [q] at e; cases e
  | some o =>
    rw [q] at e
    dsimp only at e
    cases qd : o.data with
    | fields vs => rw [qd] at e; exact ⟨o, vs, rfl, qd, e⟩
    | _ => rw [qd] at e; cases e
theorem hkFn_of {h : Heap} {c : Addr} {v d : Value} (e : hkFn h c = some (v, d)) : ∃ o fd, h.get? c = some o ∧ o.data = .func fd ∧ fd.code = v ∧ fd.doc = d := by
  unfold hkFn at e
  cases q : h.get? c with
  | none => rw [q] at e; cases e
  | some o =>
    rw [q] at e
    dsimp only at e
    cases qd : o.data with
    | func fd => rw [qd] at e; cases e; exact ⟨o, fd, rfl, qd, rfl, rfl⟩
    | _ => rw [qd] at e; cases e
theorem vStr_of {v : Value} {s : Str} (e : vStr v = some s) : ∃ t, v = .str s t := by
  cases v with
  | str s t => cases e; exact ⟨t, rfl⟩
  | _ => cases e
theorem vInt_of {v : Value} {s : Int} (e : vInt v = some s) : ∃ t, v = .int s t := by
  cases v with
  | int s t => cases e; exact ⟨t, rfl⟩
  | _ => cases e
theorem dict_lit {P : Params} : ∀ (es : List DictEntry) (l : List (Str × Int)), es.map (fun e => (e.hash, vStr e.key, vInt e.val)) = l.map (fun p => (PyData.keyHash P p.1, some p.1, some p.2)) →
    KeysLit P es ∧ ∀ x c, (l.find? fun p => p.1 == x).map (·.2) = some c → ∃ t, (es.find? fun e => Value.isStrOf x e.key).map (·.val) = some (.int c t)
  | [], [], _ => ⟨trivial, fun x c h => by cases h⟩
  | [], _ :: _, h => by cases h
  | _ :: _, [], h => by cases h
  | e :: es, p :: l, h => by
    rw [List.map_cons, List.map_cons, List.cons.injEq, Prod.mk.injEq, Prod.mk.injEq] at h
    obtain ⟨⟨h1, h2, h3⟩, h4⟩ := h
    obtain ⟨i1, i2⟩ := dict_lit es l h4
    obtain ⟨t, e2⟩ := vStr_of h2
    obtain ⟨t3, e3⟩ := vInt_of h3
    refine ⟨⟨⟨p.1, t, e2, h1⟩, i1⟩, fun x c hx => ?_⟩
    have hb : Value.isStrOf x e.key = (p.1 == x) := by rw [e2]; rfl
    rw [List.find?_cons] at hx ⊢
    rw [hb]
    cases q : p.1 == x with
    | true =>
      rw [q] at hx
      exact ⟨t3, by rw [Option.map_some] at hx ⊢; rw [e3]; cases hx; rfl⟩
    | false =>
      rw [q] at hx
      exact i2 x c hx
theorem toks_ok : ∀ p ∈ tokList, (toks.find? fun q => q.1 == mkS [p.1]).map (·.2) = some p.2 := by decide +kernel
theorem HK.of {w : World} {s : Shared} (e : hkObs s = hkVal w) : HK w.params s.heap := by
  unfold hkObs hkVal at e
  simp only [Prod.mk.injEq] at e
  obtain ⟨⟨e1, e2⟩, e3, e4, e5, e6, e7, e8, e9⟩ := e
  refine ⟨⟨_, _, .of_isNs e1, .of_isNs e2, List.map_inj_left.mp e3, fun p hp => ?_, ?_, fun p hp => ?_⟩, fun p hp => ?_, ?_, ?_, ?_⟩
  · have := List.map_inj_left.mp e4 p hp
    cases q : s.heap.nsMap mainGlobals p.1 with
    | none => rw [q] at this; cases this
    | some v =>
      rw [q] at this
      obtain ⟨t, rfl⟩ := vInt_of (Option.some.inj this)
      exact ⟨t, rfl⟩
  · cases q : s.heap.nsMap mainGlobals "ELLIPSIS_MARKER" with
    | none => rw [q] at e5; cases e5
    | some v =>
      rw [q] at e5
      obtain ⟨t, rfl⟩ := vStr_of (Option.some.inj e5)
      exact ⟨t, rfl⟩
  · have := List.map_inj_left.mp e6 p hp
    rw [Prod.mk.injEq] at this
    exact this
  · exact hkFn_of (List.map_inj_left.mp e7 p hp)
  · rw [List.cons.injEq] at e8; exact hkTab_of e8.1
  · rw [List.cons.injEq, List.cons.injEq] at e8; exact hkTab_of e8.2.1
  · unfold hkDict at e9
    cases q : s.heap.get? 71 with
    | none => rw [q] at e9; cases e9
    | some o =>
      rw [q, Option.map_some, Option.some.injEq, Prod.mk.injEq, Prod.mk.injEq, Prod.mk.injEq] at e9
      obtain ⟨f1, f2, f3, f4⟩ := e9
      obtain ⟨oc, od, ot, os⟩ := o
      cases ot with
      | dict es n =>
        obtain rfl : oc = .type "dict" := f1
        obtain rfl : od = none := f2
        obtain rfl : os = #[] := f3
        obtain ⟨k1, k2⟩ := dict_lit es.toList toks (Option.some.inj f4)
        refine ⟨es, n, rfl, k1, fun p hp => ?_⟩
        obtain ⟨t, ht⟩ := k2 _ _ (toks_ok p hp)
        refine ⟨t, ?_⟩
        unfold findBy
        rw [← Array.find?_toList]; exact ht
      | _ => cases f4
noncomputable def hook : Hook := ⟨HKα, hkObs, hkVal, fun w h => HK w.params h, fun _ _ e => HK.of e, fun _ _ _ X k => X.keeps k⟩










noncomputable def freedObj : Obj := ⟨.none, none, .freed, #[]⟩
noncomputable def cutTabs (h : Heap) : Heap := { h with objs := (h.objs.setIfInBounds 37 freedObj).setIfInBounds 44 freedObj }
theorem cut_get {h : Heap} {a : Addr} (ha : ¬ isTab a) : (cutTabs h).get? a = h.get? a := by
  have h1 : ¬ (44 : Nat) = a := fun q => ha (.inr q.symm)
  have h2 : ¬ (37 : Nat) = a := fun q => ha (.inl q.symm)
  unfold Heap.get? cutTabs
  dsimp only
  rw [Array.getElem?_setIfInBounds, if_neg h1, Array.getElem?_setIfInBounds, if_neg h2]
theorem cut_tab {h : Heap} {a : Addr} (ha : isTab a) : (cutTabs h).get? a = none := by
  unfold Heap.get? cutTabs
  dsimp only
  rcases ha with rfl | rfl
  · rw [Array.getElem?_setIfInBounds, if_neg (by decide), Array.getElem?_setIfInBounds, if_pos rfl]
    split
    · rfl
    · rename_i hx
      split at hx
      · exact absurd rfl (hx _ _ _)
      · rename_i hn; rw [if_neg hn]
  · rw [Array.getElem?_setIfInBounds, if_pos rfl]
    split
    · rfl
    · rename_i hx
      split at hx
      · exact absurd rfl (hx _ _ _)
      · rename_i hn; rw [if_neg hn]
theorem cut_of {h : Heap} {a : Addr} {o : Obj} (e : (cutTabs h).get? a = some o) : ¬ isTab a ∧ h.get? a = some o := by
  by_cases ha : isTab a
  · rw [cut_tab ha] at e; cases e
  · exact ⟨ha, (cut_get ha).symm.trans e⟩
theorem cut_ns {h : Heap} {a : Addr} {m : Str → Option Value} (x : h.Ns a m) (ha : ¬ isTab a) : (cutTabs h).Ns a m := by
  obtain ⟨o, es, ep, e, r⟩ := x
  exact ⟨o, es, ep, (cut_get ha).trans e, r⟩
theorem step_old {s s' : Shared} (y : Step s s') (t : TabsOK s.heap) (hc : ∀ P, isTab P → isCodeTable s.heap P) (h0 : ∀ P, isTab P → s.heap.get? P = some (tabObj #[])) : OldK s.heap s'.heap := by
  have hs : ∀ b, isTab b → s'.heap.get? b = s.heap.get? b ∨ ∃ l1 l2 c', s'.heap.get? b = some (tabObj #[l1, l2, .ref c']) := fun b hb => by
    rcases (y.tabs t).2 b hb with e | ⟨l1, l2, c', _, _, e⟩
    · exact .inl e
    · exact .inr ⟨l1, l2, c', e⟩
  refine ⟨fun b o e => ?_, fun b o e => ?_⟩
  · by_cases hb : isTab b
    · rcases hs b hb with q | ⟨l1, l2, c', q⟩
      · exact .inl (q.trans e)
      · have := h0 b hb
        rw [e] at this
        cases this
        exact .inr (.inl ⟨hc b hb, rfl, #[], #[l1, l2, .ref c'], rfl, q⟩)
    · exact .inl (y.keep b o hb e)
  · by_cases hb : isTab b
    · rcases hs b hb with q | ⟨l1, l2, c', q⟩
      · exact ⟨o, q.trans e⟩
      · exact ⟨_, q⟩
    · exact ⟨o, y.keep b o hb e⟩
theorem ints_rep {g : Vis} {vs : List Value} {xs : List Int} (h : IntsAre vs xs) : RepL g vs (xs.map .int) := by
  induction h with
  | nil => exact .nil
  | cons n t _ ih => exact .cons (.int n t) ih
theorem defs_named : ∀ p ∈ defList, (nm (stmtAt p.2.1), p.1) ∈ defNames := by decide +kernel
theorem defs_apart : ∀ p ∈ defList, ¬ (p.1 = 37 ∨ p.1 = 44) ∧ ¬ (p.2.2 = 37 ∨ p.2.2 = 44) ∧ defList.find? (fun q => q.1 == p.1) = some p := by decide +kernel
theorem fdata_eq {n : Nat} {pm : Value} {c : Addr} : Calls.docDef (nm (stmtAt n)) (ar (stmtAt n)) (bd (stmtAt n)) (sc (stmtAt n)) pm (.ref c) .none = mkFd n pm (.ref c) := rfl
theorem law_end {q : Program} {loose : List Str} {mean : ExcName → Option Value} {w : World} {s₁ : Shared} {mg mb : Str → Option Value} (prog : Program) (T : Top q loose mean mg mb s₁.heap) (X : HK w.params s₁.heap)
    (hq : ∀ p ∈ defList, ∃ d ∈ recsOf q, d.name = nm (stmtAt p.2.1) ∧ d.params = ar (stmtAt p.2.1) ∧ d.body = bd (stmtAt p.2.1) ∧ d.scope = sc (stmtAt p.2.1)) (hgen : s₁.gens = #[])
    {l n : Nat} {vs : List Value} {xs : List Int} (hL : s₁.heap.get? l = some { cls := .type "list", data := .seq vs.toArray n }) (hI : IntsAre vs xs) (hx : xs.length ≤ 63) {Q : Value → Shared → Prop} {E : Value → Shared → Prop}
    (hQ : ∀ s', OldK s₁.heap s'.heap → s'.os = s₁.os → s'.gens = #[] → Q (.bool true) s') : wpAny (model prog w) callerA (call (.ref 123) [.ref l]) Q E s₁ := by
  obtain ⟨m, mb', n1, n2, hn, hnum, hdots, hbi⟩ := X.ns
  obtain rfl : m = mg := n1.eq_nsMap.trans T.g.eq_nsMap.symm
  obtain rfl : mb' = mb := n2.eq_nsMap.trans T.b.eq_nsMap.symm
  have hfd : ∀ p ∈ defList, ∃ pm o, s₁.heap.get? p.1 = some o ∧ o.data = .func (mkFd p.2.1 pm (.ref p.2.2)) ∧ s₁.heap.CodeRec (.ref p.2.2) (nm (stmtAt p.2.1)) := fun p hp => by
    obtain ⟨d, hd, e1, e2, e3, e4⟩ := hq p hp
    obtain ⟨a, o, pm, code, doc, f1, f2, f3, f4⟩ := T.fn d hd
    rw [e1] at f1 f4
    have hm := hn _ (defs_named p hp)
    dsimp only at hm
    rw [f1] at hm
    cases hm
    obtain ⟨o', fd, g1, g2, g3, g4⟩ := X.fns p hp
    rw [f2] at g1
    cases g1
    rw [f3] at g2
    cases g2
    have g3 : code = .ref p.2.2 := g3
    have g4 : doc = .none := g4
    subst g3
    subst g4
    rw [e1, e2, e3, e4, fdata_eq] at f3
    exact ⟨pm, o, f2, f3, f4⟩
  have htab : ∀ p ∈ defList, ∃ P, s₁.heap.IsCode p.2.2 P #[] ∧ s₁.heap.TableAt p.2.2 P #[] := fun p hp => by
    obtain ⟨d, hd, e1, _⟩ := hq p hp
    obtain ⟨a, o, fd, c, P, f1, f2, f3, f4, f5, f6⟩ := T.tab d hd
    rw [e1] at f1
    have hm := hn _ (defs_named p hp)
    dsimp only at hm
    rw [f1] at hm
    cases hm
    obtain ⟨o', fd', g1, g2, g3, _⟩ := X.fns p hp
    rw [f2] at g1
    cases g1
    rw [f3] at g2
    cases g2
    rw [f4] at g3
    cases g3
    exact ⟨P, f5, f6⟩
  have tabOf : ∀ p ∈ defList, ∀ P, (∃ o vs, s₁.heap.get? p.2.2 = some o ∧ o.data = .fields vs ∧ vs[11]? = some (.ref P)) → s₁.heap.IsCode p.2.2 P #[] ∧ s₁.heap.TableAt p.2.2 P #[] := fun p hp P ⟨o, vs, e1, e2, e3⟩ => by
    obtain ⟨P', h1, h2⟩ := htab p hp
    obtain ⟨⟨o', vs', f1, _, f3, f4⟩, _⟩ := id h2
    rw [e1] at f1
    cases f1
    rw [e2] at f3
    cases f3
    rw [e3] at f4
    cases f4
    exact ⟨h1, h2⟩
  have t41 := tabOf (42, 7, 41) (by decide) 37 X.c41
  have t48 := tabOf (49, 8, 48) (by decide) 44 X.c48
  have h37 : s₁.heap.get? 37 = some (tabObj #[]) := t41.2.2
  have h44 : s₁.heap.get? 44 = some (tabObj #[]) := t48.2.2
  have h0 : ∀ P, isTab P → s₁.heap.get? P = some (tabObj #[]) := fun P hP => by
    rcases hP with rfl | rfl
    · exact h37
    · exact h44
  have hct : ∀ P, isTab P → isCodeTable s₁.heap P := fun P hP => by
    rcases hP with rfl | rfl
    · exact t41.2.isCodeTable
    · exact t48.2.isCodeTable
  have hTabs : TabsOK s₁.heap := ⟨.inl h37, .inl h44⟩
  obtain ⟨pmf, hpm⟩ := Classical.axiomOfChoice (fun p : Addr × Nat × Addr => (Classical.em (p ∈ defList)).elim (fun h => (hfd p h).elim fun pm hpm => (⟨pm, fun _ => hpm⟩ : ∃ pm : Value, p ∈ defList → ∃ o, s₁.heap.get? p.1 = some o ∧ o.data = .func (mkFd p.2.1 pm (.ref p.2.2)) ∧ s₁.heap.CodeRec (.ref p.2.2) (nm (stmtAt p.2.1)))) (fun h => ⟨.none, fun q => absurd q h⟩))
  have code_cut : ∀ {c : Addr} {nmq : Str}, ¬ isTab c → s₁.heap.CodeRec (.ref c) nmq → (cutTabs s₁.heap).CodeRec (.ref c) nmq := fun {c nmq} hc ⟨c', o, vs, t, e, g, r⟩ => by
    cases e
    exact ⟨c, o, vs, t, rfl, (cut_get hc).trans g, r⟩
  have nl : (cutTabs s₁.heap).NoLimit := let ⟨mc, a, b⟩ := T.nolimit; ⟨mc, cut_ns a (by unfold isTab; decide), b⟩
  let C : Base := ⟨w, cutTabs s₁.heap, m, mb', s₁.os, cut_ns n1 (by unfold isTab; decide), cut_ns n2 (by unfold isTab; decide), nl, hbi,
    fun a => (defList.find? fun q => q.1 == a).map fun p => mkFd p.2.1 (pmf p) (.ref p.2.2), fun a fd e => by
      obtain ⟨p, hp, rfl⟩ := Option.map_eq_some_iff.mp e
      have hm := List.mem_of_find?_eq_some hp
      have ha := eq_of_beq (List.find?_some (p := fun q : Addr × Nat × Addr => q.1 == a) hp)
      obtain ⟨o, f1, f2, f3⟩ := hpm p hm
      have ap := defs_apart p hm
      exact ⟨o, by rw [← ha]; exact (cut_get ap.1).trans f1, f2, code_cut ap.2.1 f3⟩⟩
  have hbm : ∀ P, isTab P → C.hb.BuiltinsAt C.mg P := fun P hP => by
    obtain ⟨bm, ob, b1, b2, b3, b4, b5, b6⟩ := T.bmain
    obtain ⟨og, es, ep, g1, g2, _⟩ := T.g
    have nt : ¬ isTab bm := fun q => by
      rw [h0 bm q] at b3
      cases b3
      cases b4
    refine ⟨bm, ob, b1, b2, fun q => ?_, fun q => nt (q ▸ hP), (cut_get nt).trans b3, b4, b5, b6⟩
    rw [q, g1] at b3
    cases b3
    rw [g2] at b6
    cases b6
  have hhd : ∀ {c P : Addr}, ¬ isTab c → CodeHd s₁.heap c P → CodeHd C.hb c P := fun {c P} hc ⟨o, vs, file, tf, flags, tg, inF, text, tt, e, r⟩ => ⟨o, vs, file, tf, flags, tg, inF, text, tt, (cut_get hc).trans e, r⟩
  have G : PGD C := {
    fd := fun p hp => ⟨pmf p, by show ((defList.find? fun q => q.1 == p.1).map _) = _; rw [(defs_apart p hp).2.2]; rfl⟩
    mg := fun p hp => hn p (List.mem_cons_of_mem _ hp)
    num := hnum
    dots := hdots
    nest1 := ⟨hhd (by unfold isTab; decide) (.of t41.1 t41.2), .inl rfl, hbm 37 (.inl rfl), by decide, .inl ⟨rfl, rfl, rfl, rfl⟩⟩
    nest2 := ⟨hhd (by unfold isTab; decide) (.of t48.1 t48.2), .inr rfl, hbm 44 (.inr rfl), by decide, .inr ⟨rfl, rfl, rfl, rfl⟩⟩
    tok := let ⟨es, n, e, r⟩ := X.dict; ⟨es, n, (cut_get (by unfold isTab; decide)).trans e, r⟩ }
  have ho : OK C isTab s₁ := {
    keep := fun a o e => (cut_of e).2
    hb := fun a o e => (cut_of e).1
    tabs := hTabs
    gens := hgen
    os := rfl
    live := fun a h => ⟨_, h0 a h⟩
    tab := fun _ h => h
    code := fun P l1 l2 c' hP e => by
      rw [h0 P hP] at e
      cases e }
  have nl' : ¬ isTab l := fun q => by
    rw [h0 l q] at hL
    cases hL
  exact law_call (C := C) (Mu := isTab) G ⟨rfl, by decide, by decide⟩ rfl ho (.list ⟨nl', hL⟩ (ints_rep hI)) hx facts fun s' y => hQ s' (step_old y hTabs hct h0) y.os (y.gens.trans hgen)
theorem exact_list {P : Params} {h : Heap} {l : Addr} {vs : List Value} {ds : List PyData} (hL : h.IsList l vs.toArray) (W : Well P h (.ref l) (ofPy (.list ds))) : ∃ n, h.get? l = some { cls := .type "list", data := .seq vs.toArray n } := by
  obtain ⟨o, e, hc, n, hd⟩ := hL
  have hx : ∃ xs, ofPy (.list ds) = .list xs := ⟨_, rfl⟩
  obtain ⟨xs, hx⟩ := hx
  rw [hx] at W
  cases W with
  | list g _ =>
    rw [e] at g
    cases g
    cases hd
    exact ⟨_, e⟩
noncomputable def defRows : List Nat := [2, 5, 6, 7, 8, 9, 10, 12, 65, 66, 67, 69, 70, 71, 72, 73]
theorem hq_of {q : Program} (e : (recsOf q).map (fun d => (d.name, d.params, d.body, d.scope)) = defRows.map fun n => (nm (stmtAt n), ar (stmtAt n), bd (stmtAt n), sc (stmtAt n))) :
    ∀ p ∈ defList, ∃ d ∈ recsOf q, d.name = nm (stmtAt p.2.1) ∧ d.params = ar (stmtAt p.2.1) ∧ d.body = bd (stmtAt p.2.1) ∧ d.scope = sc (stmtAt p.2.1) := fun p hp => by
  have hr : ∀ p ∈ defList, p.2.1 ∈ defRows := by decide +kernel
  have hm := List.mem_map_of_mem (f := fun n => (nm (stmtAt n), ar (stmtAt n), bd (stmtAt n), sc (stmtAt n))) (hr p hp)
  rw [← e] at hm
  obtain ⟨d, hd, q⟩ := List.mem_map.mp hm
  rw [Prod.mk.injEq, Prod.mk.injEq, Prod.mk.injEq] at q
  exact ⟨d, hd, q⟩
theorem head_of (r : OpenRow) (keep : List Nat) (loose : List Str) (N : Nat) (H : Hook) {d : DefRec} {kwd : List (Str × Expr)} (left : LeftO r.prog (view r.prog keep) loose (fun s => xlAt (view r.prog keep) [] s && recOk r.toRowW.records s) H.obs H.val N)
    (hdef : defOf (view r.prog keep) r.name = some (d, kwd)) (hp : r.prog.theDef r.name = some (d.params, d.body, d.scope)) (hk : kwWritten? d.params.kwonlyargs d.params.kw_defaults = some kwd) (hwr : (!r.writes || r.records.isEmpty) = true)
    (k1 : r.wellSaid = true) (ok : (chainsOk (view r.prog keep) && opensWell r.prog && (frees r.toRowW && r.within.isEmpty)) = true) (hb : r.prog.bare) (hw : r.toRowW.promised)
    (call : WalkO (view r.prog keep) loose (XL (view r.prog keep) []) H.says r.toRowW d kwd fun f vs => PySem.call f vs) : r.Holds :=
  holds_open left H.of H.keeps (fun s e => xl_of s (Bool.and_eq_true_iff.mp e).1) XL.keeps hdef hp hk (fun s e => recFacts_of (Bool.and_eq_true_iff.mp e).2) hwr k1 ok hb hw call
theorem head : PySem.Challenge.rw_ta0059_01.Holds := by
  dsimp (config := { decide := false }) only [PySem.Challenge.rw_ta0059_01, PySem.Challenge.pw_ta0059_01, Mine.at0, Mine.at1, Mine.at2, Mine.at3, Mine.at4, Mine.at5, Mine.at6, Mine.at7, Mine.at8, Mine.at9, Mine.at10, Mine.at11, Mine.at12, Mine.at13, Mine.at14, Mine.at15, Mine.at16, Mine.at17, Mine.at18, Mine.at19, Mine.at20, Mine.at21, Mine.at22, Mine.at23, Mine.at24, Mine.at25, Mine.at26, Mine.at27, Mine.at28, Mine.at29, Mine.at30, Mine.at31, Mine.at32, Mine.at33, Mine.at34, Mine.at35, Mine.at36, Mine.at37, Mine.at38, Mine.at39, Mine.at40, Mine.at41, Mine.at42, Mine.at43, Mine.at44, Mine.at45, Mine.at46, Mine.at47, Mine.at48, Mine.at49, Mine.at50, Mine.at51, Mine.at52, Mine.at53, Mine.at54, Mine.at55, Mine.at56, Mine.at57, Mine.at58, Mine.at59, Mine.at60, Mine.at61, Mine.at62, Mine.at63, Mine.at64, Mine.at65, Mine.at66, Mine.at67, Mine.at68, Mine.at69, Mine.at70, Mine.at71, Mine.at72, Mine.at73, Mine.at74, Mine.at75, Mine.at76, Mine.at77, Mine.at78, Mine.at79, Mine.at80, Mine.at81, Mine.at82, Mine.at83, Mine.at84, Mine.at85, Mine.at86, Mine.at87, Mine.at88, Mine.at89, Mine.at90, Mine.at91, Mine.at92, Mine.at93, Mine.at94, Mine.at95, Mine.at96, Mine.at97, Mine.at98, Mine.at99, Mine.at100, Mine.at101, Mine.at102, Mine.at103, Mine.at104, Mine.at105, Mine.at106, Mine.at107, Mine.at108, Mine.at109, Mine.at110, Mine.at111, Mine.at112, Mine.at113, Mine.at114, Mine.at115, Mine.at116, Mine.at117, Mine.at118, Mine.at119, Mine.at120, Mine.at121, Mine.at122, Mine.at123, Mine.at124, Mine.at125, Mine.at126, Mine.at127, Mine.at128, Mine.at129, Mine.at130, Mine.at131, Mine.at132, Mine.at133, Mine.at134, Mine.at135, Mine.at136, Mine.at137, Mine.at138, Mine.at139, Mine.at140, Mine.at141, Mine.at142, Mine.at143, Mine.at144, Mine.at145, Mine.at146, Mine.at147, Mine.at148, Mine.at149, Mine.at150, Mine.at151, Mine.at152, Mine.at153, Mine.at154, Mine.at155, Mine.at156, Mine.at157, Mine.at158, Mine.at159, Mine.at160, Mine.at161, Mine.at162, Mine.at163, Mine.at164, Mine.at165, Mine.at166, Mine.at167, Mine.at168, Mine.at169, Mine.at170, Mine.at171, Mine.at172, Mine.at173, Mine.at174, Mine.at175, Mine.at176, Mine.at177, Mine.at178, Mine.at179, Mine.at180, Mine.at181, Mine.at182, Mine.at183, Mine.at184, Mine.at185, Mine.at186, Mine.at187, Mine.at188, Mine.at189, Mine.at190, Mine.at191, Mine.at192, Mine.at193, Mine.at194, Mine.at195, Mine.at196, Mine.at197, Mine.at198, Mine.at199, Mine.at200, Mine.at201, Mine.at202, Mine.at203, Mine.at204, Mine.at205, Mine.at206, Mine.at207, Mine.at208, Mine.at209, Mine.at210, Mine.at211, Mine.at212, Mine.at213, Mine.at214, Mine.at215, Mine.at216, Mine.at217, Mine.at218, Mine.at219, Mine.at220, Mine.at221, Mine.at222, Mine.at223, Mine.at224, Mine.at225, Mine.at226, Mine.at227, Mine.at228, Mine.at229, Mine.at230, Mine.at231, Mine.at232, Mine.at233, Mine.at234, Mine.at235, Mine.at236, Mine.at237]
  w_on; o_law
  refine Mine.head_of _ Mine.keep Mine.looseL 4122 Mine.hook Mine.leftA (by rfl) (by rfl) (by rfl) (by rfl) (by first | assumption | decide +kernel) (by decide +kernel) ⟨rfl, rfl, rfl, rfl, rfl, by decide +kernel⟩ ?hw ?hc
  case hw => w_witness2
  intro w s₀ s₁ mg mb G Y fa o pm cd doc dV kV ho hd hcd hD hmg hg args vals as hpre hlay hrd hwl hlo
  clear ho hd hcd hD
  have T := G.T
  have X : Mine.HK w.params s₁.heap := Y
  clear G Y
  wrow_args hpre hlay hrd hwl hlo
  rename_i xs _ _ _ _ _ _ _ l vs _ hL _ hW _ hI _ hle _
  have hm : mg "law" = some (.ref 123) := by
    obtain ⟨m, _, n1, _, hn, _⟩ := X.ns
    rw [T.g.eq_nsMap, ← n1.eq_nsMap]
    exact hn ("law", 123) (List.Mem.head _)
  have hf : mg "law" = some (.ref fa) := hmg
  rw [hm] at hf
  cases hf
  obtain ⟨n, hE⟩ := Mine.exact_list hL hW
  refine Mine.law_end _ T X ?_ hg hE hI (by omega) fun s' hold hos hgn => ⟨.inl ⟨_, .bool true, [], rfl, fun _ => ?_, ?_, ?_, fun _ => ⟨List.nodup_nil, fun _ h => by cases h⟩⟩, hold, hos, .of_eq hgn⟩
  · exact Mine.hq_of (by kernel_rfl)
  · rfl
  · exact .bool _
  · kernel_rfl
end Mine
theorem PySem.Challenge.cw_ta0059_01_holds : PySem.Challenge.rw_ta0059_01.Holds := by
  exact Mine.head
