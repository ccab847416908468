import PyProof.Rows.All
import Wide.All
import OpenK.AllK
import Wide.FinOn
import PySem.Challenge.RW_rw0035_01
open PySem PySem.W PySem.Calls PyProof.Rows
set_option Elab.async false
set_option maxRecDepth 100000
set_option maxHeartbeats 0
set_option linter.all false
set_option compiler.extract_closed false
namespace Mine
noncomputable section
noncomputable abbrev pw : Program := PySem.Challenge.pw_rw0035_01
noncomputable abbrev S (x : String) : Str := Str.ofString x
noncomputable def en (P : Params) (k : Str) (t : Nat) (v : Value) : DictEntry := ⟨PyData.keyHash P k, .str k t, v⟩
noncomputable def fnD (i g b : Nat) (dV kV doc pm : Value) (an : Option Addr) (cd ct : Value) : FuncData := match pw.main.body[i]? with
  | some (.FunctionDef n a st _ _ _ sc _ _ _) => { name := n, qualname := n, params := a, body := .stmts st, scope := sc, globals := g, closure := [], defaults := dV, kwdefaults := kV, doc := doc, pyModule := pm, annotations := an, code := cd, closureTuple := ct, builtins := b }
  | _ => default
noncomputable def clD (n : Str) (bs mro : List Value) (ns : Nat) (q : Str) (subs : List Value) : ClassData := { name := n, bases := bs, mro := mro, ns := ns, qualname := q, subclasses := subs }
def hx (n : Nat) : Nat := bif Nat.blt n 10 then 48 + n else 55 + n
def q61 (c : Nat) : Value := .str ⟨Array.mk [61, hx (c / 16), hx (c % 16)]⟩ (264 + 4 * c)
def one (c t : Nat) : Value := .str ⟨Array.mk [c]⟩ t
def inR (a b c : Nat) : Bool := Nat.ble a c && Nat.ble c b
def q66a (c : Nat) : Value := bif inR 97 122 c then one c (1031 + 3 * c) else bif inR 65 90 c then one c (1205 + 3 * c) else bif inR 48 57 c then one c (1334 + 3 * c) else
  bif Nat.beq c 45 then one c 1307 else bif Nat.beq c 33 then one c 1310 else bif Nat.beq c 42 then one c 1313 else bif Nat.beq c 43 then one c 1316 else bif Nat.beq c 47 then one c 1319 else q61 c
def q66b (c : Nat) : Value := bif Nat.beq c 32 then .str ⟨Array.mk [95]⟩ 1506 else q66a c
def q68 (c : Nat) : Value := bif inR 32 60 c then one c (1416 + 3 * c) else bif inR 62 126 c then one c (1413 + 3 * c) else bif Nat.beq c 9 then one c 1794 else q61 c
def q83 (c : Nat) : Value := bif Nat.beq c 13 then one c 1806 else bif Nat.beq c 10 then one c 1809 else q68 c
noncomputable def o11_b (_ : Params) : Obj := ⟨(.type "tuple"), none, (.seq (Array.mk []) 0), Array.mk []⟩
noncomputable def o12_b (_ : Params) : Obj := ⟨.none, none, (.fields (Array.mk [])), Array.mk []⟩
noncomputable def o13_b (_ : Params) : Obj := ⟨(.type "code"), none, (.fields (Array.mk [(.str (S "<module>") 182), (.str (S "<module>") 183), (.str (S "/claim/cut.py") 184), (.int 1 0), (.int 0 0), (.int 0 0), (.int 0 0), (.int 0 0), (.ref 11), (.bool false), (.int 181 0), (.ref 12), .none, .none, .none, .none, (.int 185 0), (.int 1 0), (.str (S "/claim/cut.py") 186)])), Array.mk []⟩
noncomputable def o14_b (_ : Params) : Obj := ⟨(.type "frame"), none, .plain, Array.mk [(some (.ref 13)), (some (.ref 3)), (some (.ref 3)), none, (some (.str (S "__main__") 164)), none, (some (.ref 0))]⟩
noncomputable def t_b (P : Params) : BT := (.node (boot_o_0 P) (.node (boot_o_1 P) (.node (boot_o_3 P) (.node (boot_o_7 P) .nil .nil) (.node (o11_b P) .nil .nil)) (.node (boot_o_5 P) (.node (boot_o_9 P) .nil .nil) (.node (o13_b P) .nil .nil))) (.node (boot_o_2 P) (.node (boot_o_4 P) (.node (boot_o_8 P) .nil .nil) (.node (o12_b P) .nil .nil)) (.node (boot_o_6 P) (.node (boot_o_10 P) .nil .nil) (.node (o14_b P) .nil .nil))))
noncomputable def o2_6 (P : Params) : Obj := ⟨.none, none, (.dict (List.toArray [en P (S "type.__subclasses__.Exception.0") 205 (.int 24 0), en P (S "type.__subclasses__.Exception.n") 206 (.int 1 0)]) 2), Array.mk []⟩
noncomputable def o3_6 (P : Params) : Obj := ⟨(.type "dict"), none, (.dict (List.toArray [en P (S "__name__") 165 (.str (S "cpy313.ftplib") 187), en P (S "__doc__") 166 .none, en P (S "__package__") 167 .none, en P (S "__loader__") 168 (.builtin "__main__.__loader__#opaque"), en P (S "__spec__") 169 .none, en P (S "__annotations__") 170 (.ref 6), en P (S "__builtins__") 171 (.ref 4), en P (S "__file__") 173 (.str (S "/claim/cut.py") 172), en P (S "__cached__") 174 .none, en P (S "Error") 208 (.ref 24), en P (S "error_reply") 224 (.ref 37), en P (S "error_proto") 240 (.ref 49), en P (S "parse229") 253 (.ref 58), en P (S "CRLF") 255 (.str (S "\r\n") 254), en P (S "NL") 257 (.str (S "\n") 256)]) 15), Array.mk []⟩
noncomputable def o12_6 (_ : Params) : Obj := ⟨.none, none, (.fields (Array.mk [(.int 2 0), (.int 0 0), (.ref 20), (.int 4 0), (.int 0 0), (.ref 33), (.int 6 0), (.int 0 0), (.ref 45), (.int 8 0), (.int 0 0), (.ref 57)])), Array.mk []⟩
noncomputable def o15_6 (_ : Params) : Obj := ⟨(.type "tuple"), none, (.seq (Array.mk [(.type "Exception")]) 0), Array.mk []⟩
noncomputable def o16_6 (_ : Params) : Obj := ⟨(.type "builtin_function_or_method"), none, (.fields (Array.mk [(.builtin "type.__prepare__"), (.type "type")])), Array.mk []⟩
noncomputable def o17_6 (P : Params) : Obj := ⟨(.type "dict"), none, (.dict (List.toArray [en P (S "__module__") 196 (.str (S "cpy313.ftplib") 187), en P (S "__qualname__") 198 (.str (S "Error") 197), en P (S "__firstlineno__") 200 (.int 2 199), en P (S "__static_attributes__") 201 (.ref 22)]) 4), Array.mk []⟩
noncomputable def o18_6 (_ : Params) : Obj := ⟨(.type "tuple"), none, (.seq (Array.mk []) 0), Array.mk []⟩
noncomputable def o19_6 (_ : Params) : Obj := ⟨.none, none, (.fields (Array.mk [])), Array.mk []⟩
noncomputable def o20_6 (_ : Params) : Obj := ⟨(.type "code"), none, (.fields (Array.mk [(.str (S "Error") 191), (.str (S "Error") 192), (.str (S "/claim/cut.py") 193), (.int 2 0), (.int 0 0), (.int 0 0), (.int 0 0), (.int 0 0), (.ref 18), (.bool false), (.int 181 0), (.ref 19), .none, .none, .none, .none, (.int 194 0), (.int 2 0), (.str (S "/claim/cut.py") 195)])), Array.mk []⟩
noncomputable def o21_6 (_ : Params) : Obj := ⟨(.type "frame"), none, .plain, Array.mk [(some (.ref 20)), (some (.ref 3)), (some (.ref 17)), none, (some (.str (S "cpy313.ftplib") 187)), none, (some (.ref 0))]⟩
noncomputable def o22_6 (_ : Params) : Obj := ⟨(.type "tuple"), none, (.seq (Array.mk []) 0), Array.mk []⟩
noncomputable def o23_6 (P : Params) : Obj := ⟨(.type "dict"), none, (.dict (List.toArray [en P (S "__module__") 196 (.str (S "cpy313.ftplib") 187), en P (S "__firstlineno__") 200 (.int 2 199), en P (S "__static_attributes__") 201 (.ref 22), en P (S "__weakref__") 203 (.ref 25), en P (S "__doc__") 204 .none]) 3), Array.mk []⟩
noncomputable def o24_6 (_ : Params) : Obj := ⟨(.type "type"), none, (.cls (clD (S "Error") [(.type "Exception")] [(.ref 24), (.type "Exception"), (.type "BaseException"), (.type "object")] 23 (S "Error") [(.ref 37), (.ref 49)])) , Array.mk [(some (.ref 15)), none, (some (.str (S "Error") 189)), (some (.str (S "Error") 197)), (some (.builtin "Exception.__new__")), (some (.bool true))]⟩
noncomputable def o25_6 (_ : Params) : Obj := ⟨(.type "getset_descriptor"), none, (.fields (Array.mk [(.str (S "__weakref__") 202), (.ref 24), (.builtin "ExceptionGroup.__weakref__"), .none])), Array.mk []⟩
noncomputable def o26_6 (_ : Params) : Obj := ⟨(.type "super"), none, (.fields (Array.mk [(.ref 24), (.ref 24), (.ref 24)])), Array.mk []⟩
noncomputable def o27_6 (_ : Params) : Obj := ⟨(.type "builtin_function_or_method"), none, (.fields (Array.mk [(.builtin "object.__init_subclass__"), (.ref 24)])), Array.mk []⟩
noncomputable def o28_6 (_ : Params) : Obj := ⟨(.type "tuple"), none, (.seq (Array.mk [(.ref 24)]) 0), Array.mk []⟩
noncomputable def o29_6 (_ : Params) : Obj := ⟨(.type "builtin_function_or_method"), none, (.fields (Array.mk [(.builtin "type.__prepare__"), (.type "type")])), Array.mk []⟩
noncomputable def o30_6 (P : Params) : Obj := ⟨(.type "dict"), none, (.dict (List.toArray [en P (S "__module__") 216 (.str (S "cpy313.ftplib") 187), en P (S "__qualname__") 218 (.str (S "error_reply") 217), en P (S "__firstlineno__") 220 (.int 4 219), en P (S "__static_attributes__") 221 (.ref 35)]) 4), Array.mk []⟩
noncomputable def o31_6 (_ : Params) : Obj := ⟨(.type "tuple"), none, (.seq (Array.mk []) 0), Array.mk []⟩
noncomputable def o32_6 (_ : Params) : Obj := ⟨.none, none, (.fields (Array.mk [])), Array.mk []⟩
noncomputable def o33_6 (_ : Params) : Obj := ⟨(.type "code"), none, (.fields (Array.mk [(.str (S "error_reply") 211), (.str (S "error_reply") 212), (.str (S "/claim/cut.py") 213), (.int 4 0), (.int 0 0), (.int 0 0), (.int 0 0), (.int 0 0), (.ref 31), (.bool false), (.int 181 0), (.ref 32), .none, .none, .none, .none, (.int 214 0), (.int 4 0), (.str (S "/claim/cut.py") 215)])), Array.mk []⟩
noncomputable def o34_6 (_ : Params) : Obj := ⟨(.type "frame"), none, .plain, Array.mk [(some (.ref 33)), (some (.ref 3)), (some (.ref 30)), none, (some (.str (S "cpy313.ftplib") 187)), none, (some (.ref 0))]⟩
noncomputable def o35_6 (_ : Params) : Obj := ⟨(.type "tuple"), none, (.seq (Array.mk []) 0), Array.mk []⟩
noncomputable def o36_6 (P : Params) : Obj := ⟨(.type "dict"), none, (.dict (List.toArray [en P (S "__module__") 216 (.str (S "cpy313.ftplib") 187), en P (S "__firstlineno__") 220 (.int 4 219), en P (S "__static_attributes__") 221 (.ref 35), en P (S "__doc__") 222 .none]) 2), Array.mk []⟩
noncomputable def o37_6 (_ : Params) : Obj := ⟨(.type "type"), none, (.cls (clD (S "error_reply") [(.ref 24)] [(.ref 37), (.ref 24), (.type "Exception"), (.type "BaseException"), (.type "object")] 36 (S "error_reply") [])) , Array.mk [(some (.ref 28)), none, (some (.str (S "error_reply") 209)), (some (.str (S "error_reply") 217)), (some (.builtin "Exception.__new__")), (some (.bool true))]⟩
noncomputable def o38_6 (_ : Params) : Obj := ⟨(.type "super"), none, (.fields (Array.mk [(.ref 37), (.ref 37), (.ref 37)])), Array.mk []⟩
noncomputable def o39_6 (_ : Params) : Obj := ⟨(.type "builtin_function_or_method"), none, (.fields (Array.mk [(.builtin "object.__init_subclass__"), (.ref 37)])), Array.mk []⟩
noncomputable def o40_6 (_ : Params) : Obj := ⟨(.type "tuple"), none, (.seq (Array.mk [(.ref 24)]) 0), Array.mk []⟩
noncomputable def o41_6 (_ : Params) : Obj := ⟨(.type "builtin_function_or_method"), none, (.fields (Array.mk [(.builtin "type.__prepare__"), (.type "type")])), Array.mk []⟩
noncomputable def o42_6 (P : Params) : Obj := ⟨(.type "dict"), none, (.dict (List.toArray [en P (S "__module__") 232 (.str (S "cpy313.ftplib") 187), en P (S "__qualname__") 234 (.str (S "error_proto") 233), en P (S "__firstlineno__") 236 (.int 6 235), en P (S "__static_attributes__") 237 (.ref 47)]) 4), Array.mk []⟩
noncomputable def o43_6 (_ : Params) : Obj := ⟨(.type "tuple"), none, (.seq (Array.mk []) 0), Array.mk []⟩
noncomputable def o44_6 (_ : Params) : Obj := ⟨.none, none, (.fields (Array.mk [])), Array.mk []⟩
noncomputable def o45_6 (_ : Params) : Obj := ⟨(.type "code"), none, (.fields (Array.mk [(.str (S "error_proto") 227), (.str (S "error_proto") 228), (.str (S "/claim/cut.py") 229), (.int 6 0), (.int 0 0), (.int 0 0), (.int 0 0), (.int 0 0), (.ref 43), (.bool false), (.int 181 0), (.ref 44), .none, .none, .none, .none, (.int 230 0), (.int 6 0), (.str (S "/claim/cut.py") 231)])), Array.mk []⟩
noncomputable def o46_6 (_ : Params) : Obj := ⟨(.type "frame"), none, .plain, Array.mk [(some (.ref 45)), (some (.ref 3)), (some (.ref 42)), none, (some (.str (S "cpy313.ftplib") 187)), none, (some (.ref 0))]⟩
noncomputable def o47_6 (_ : Params) : Obj := ⟨(.type "tuple"), none, (.seq (Array.mk []) 0), Array.mk []⟩
noncomputable def o48_6 (P : Params) : Obj := ⟨(.type "dict"), none, (.dict (List.toArray [en P (S "__module__") 232 (.str (S "cpy313.ftplib") 187), en P (S "__firstlineno__") 236 (.int 6 235), en P (S "__static_attributes__") 237 (.ref 47), en P (S "__doc__") 238 .none]) 2), Array.mk []⟩
noncomputable def o49_6 (_ : Params) : Obj := ⟨(.type "type"), none, (.cls (clD (S "error_proto") [(.ref 24)] [(.ref 49), (.ref 24), (.type "Exception"), (.type "BaseException"), (.type "object")] 48 (S "error_proto") [])) , Array.mk [(some (.ref 40)), none, (some (.str (S "error_proto") 225)), (some (.str (S "error_proto") 233)), (some (.builtin "Exception.__new__")), (some (.bool true))]⟩
noncomputable def o50_6 (_ : Params) : Obj := ⟨(.type "super"), none, (.fields (Array.mk [(.ref 49), (.ref 49), (.ref 49)])), Array.mk []⟩
noncomputable def o51_6 (_ : Params) : Obj := ⟨(.type "builtin_function_or_method"), none, (.fields (Array.mk [(.builtin "object.__init_subclass__"), (.ref 49)])), Array.mk []⟩
noncomputable def o52_6 (_ : Params) : Obj := ⟨(.type "tuple"), none, (.seq (Array.mk []) 0), Array.mk []⟩
noncomputable def o53_6 (_ : Params) : Obj := ⟨.none, none, (.fields (Array.mk [])), Array.mk []⟩
noncomputable def o54_6 (_ : Params) : Obj := ⟨(.type "tuple"), none, (.seq (Array.mk [(.str (S "resp") 244), (.str (S "peer") 245), (.str (S "left") 246), (.str (S "right") 247), (.str (S "parts") 248), (.str (S "host") 249), (.str (S "port") 250)]) 0), Array.mk []⟩
noncomputable def o55_6 (_ : Params) : Obj := ⟨(.type "tuple"), none, (.seq (Array.mk []) 0), Array.mk []⟩
noncomputable def o56_6 (_ : Params) : Obj := ⟨.none, none, (.func (fnD 4 0 0 .none .none .none .none none .none .none)), Array.mk []⟩
noncomputable def o57_6 (_ : Params) : Obj := ⟨(.type "code"), none, (.fields (Array.mk [(.str (S "parse229") 241), (.str (S "parse229") 242), (.str (S "/claim/cut.py") 243), (.int 8 0), (.int 2 0), (.int 0 0), (.int 0 0), (.int 3 0), (.ref 52), (.bool true), (.int 181 0), (.ref 53), .none, (.ref 54), (.ref 55), (.ref 56), (.int 251 0), (.int 8 0), (.str (S "/claim/cut.py") 252)])), Array.mk []⟩
noncomputable def o58_6 (_ : Params) : Obj := ⟨(.type "function"), none, (.func (fnD 4 3 0 .none .none .none (.str (S "cpy313.ftplib") 187) none (.ref 57) .none)), Array.mk []⟩
noncomputable def t_6 (P : Params) : BT := (.node (boot_o_0 P) (.node (boot_o_1 P) (.node (o3_6 P) (.node (boot_o_7 P) (.node (o15_6 P) (.node (o31_6 P) .nil .nil) (.node (o47_6 P) .nil .nil)) (.node (o23_6 P) (.node (o39_6 P) .nil .nil) (.node (o55_6 P) .nil .nil))) (.node (o11_b P) (.node (o19_6 P) (.node (o35_6 P) .nil .nil) (.node (o51_6 P) .nil .nil)) (.node (o27_6 P) (.node (o43_6 P) .nil .nil) .nil))) (.node (boot_o_5 P) (.node (boot_o_9 P) (.node (o17_6 P) (.node (o33_6 P) .nil .nil) (.node (o49_6 P) .nil .nil)) (.node (o25_6 P) (.node (o41_6 P) .nil .nil) (.node (o57_6 P) .nil .nil))) (.node (o13_b P) (.node (o21_6 P) (.node (o37_6 P) .nil .nil) (.node (o53_6 P) .nil .nil)) (.node (o29_6 P) (.node (o45_6 P) .nil .nil) .nil)))) (.node (o2_6 P) (.node (boot_o_4 P) (.node (boot_o_8 P) (.node (o16_6 P) (.node (o32_6 P) .nil .nil) (.node (o48_6 P) .nil .nil)) (.node (o24_6 P) (.node (o40_6 P) .nil .nil) (.node (o56_6 P) .nil .nil))) (.node (o12_6 P) (.node (o20_6 P) (.node (o36_6 P) .nil .nil) (.node (o52_6 P) .nil .nil)) (.node (o28_6 P) (.node (o44_6 P) .nil .nil) .nil))) (.node (boot_o_6 P) (.node (boot_o_10 P) (.node (o18_6 P) (.node (o34_6 P) .nil .nil) (.node (o50_6 P) .nil .nil)) (.node (o26_6 P) (.node (o42_6 P) .nil .nil) (.node (o58_6 P) .nil .nil))) (.node (o14_b P) (.node (o22_6 P) (.node (o38_6 P) .nil .nil) (.node (o54_6 P) .nil .nil)) (.node (o30_6 P) (.node (o46_6 P) .nil .nil) .nil)))))
noncomputable def o3_7 (P : Params) : Obj := ⟨(.type "dict"), none, (.dict (List.toArray [en P (S "__name__") 165 (.str (S "cpy313.ftplib") 187), en P (S "__doc__") 166 .none, en P (S "__package__") 167 .none, en P (S "__loader__") 168 (.builtin "__main__.__loader__#opaque"), en P (S "__spec__") 169 .none, en P (S "__annotations__") 170 (.ref 6), en P (S "__builtins__") 171 (.ref 4), en P (S "__file__") 173 (.str (S "/claim/cut.py") 172), en P (S "__cached__") 174 .none, en P (S "Error") 208 (.ref 24), en P (S "error_reply") 224 (.ref 37), en P (S "error_proto") 240 (.ref 49), en P (S "parse229") 253 (.ref 58), en P (S "CRLF") 255 (.str (S "\r\n") 254), en P (S "NL") 257 (.str (S "\n") 256), en P (S "_QUOPRI_MAP") 1285 (.ref 61)]) 16), Array.mk []⟩
noncomputable def o59_7 (_ : Params) : Obj := ⟨(.type "range"), none, (.fields (Array.mk [(.int 0 259), (.int 256 258), (.int 1 260)])), Array.mk []⟩
noncomputable def o60_7 (_ : Params) : Obj := ⟨(.type "range_iterator"), none, (.fields (Array.mk [(.int 256 0), (.int 0 0), (.int 1 0)])), Array.mk []⟩
noncomputable def o61_7 (_ : Params) : Obj := ⟨.type "list", none, .seq (Array.mk ((List.range 256).map q61)) 256, Array.mk []⟩
noncomputable def o62_7 (_ : Params) : Obj := ⟨(.type "dict"), none, (.dict (List.toArray []) 2), Array.mk []⟩
noncomputable def o63_7 (_ : Params) : Obj := ⟨(.type "tuple"), none, (.seq (Array.mk []) 0), Array.mk []⟩
noncomputable def o64_7 (_ : Params) : Obj := ⟨(.type "StopIteration"), none, (.fields (Array.mk [(.ref 63), .none, .none, .none, (.bool false), .none])), Array.mk []⟩
noncomputable def t_7 (P : Params) : BT := (.node (boot_o_0 P) (.node (boot_o_1 P) (.node (o3_7 P) (.node (boot_o_7 P) (.node (o15_6 P) (.node (o31_6 P) (.node (o63_7 P) .nil .nil) .nil) (.node (o47_6 P) .nil .nil)) (.node (o23_6 P) (.node (o39_6 P) .nil .nil) (.node (o55_6 P) .nil .nil))) (.node (o11_b P) (.node (o19_6 P) (.node (o35_6 P) .nil .nil) (.node (o51_6 P) .nil .nil)) (.node (o27_6 P) (.node (o43_6 P) .nil .nil) (.node (o59_7 P) .nil .nil)))) (.node (boot_o_5 P) (.node (boot_o_9 P) (.node (o17_6 P) (.node (o33_6 P) .nil .nil) (.node (o49_6 P) .nil .nil)) (.node (o25_6 P) (.node (o41_6 P) .nil .nil) (.node (o57_6 P) .nil .nil))) (.node (o13_b P) (.node (o21_6 P) (.node (o37_6 P) .nil .nil) (.node (o53_6 P) .nil .nil)) (.node (o29_6 P) (.node (o45_6 P) .nil .nil) (.node (o61_7 P) .nil .nil))))) (.node (o2_6 P) (.node (boot_o_4 P) (.node (boot_o_8 P) (.node (o16_6 P) (.node (o32_6 P) (.node (o64_7 P) .nil .nil) .nil) (.node (o48_6 P) .nil .nil)) (.node (o24_6 P) (.node (o40_6 P) .nil .nil) (.node (o56_6 P) .nil .nil))) (.node (o12_6 P) (.node (o20_6 P) (.node (o36_6 P) .nil .nil) (.node (o52_6 P) .nil .nil)) (.node (o28_6 P) (.node (o44_6 P) .nil .nil) (.node (o60_7 P) .nil .nil)))) (.node (boot_o_6 P) (.node (boot_o_10 P) (.node (o18_6 P) (.node (o34_6 P) .nil .nil) (.node (o50_6 P) .nil .nil)) (.node (o26_6 P) (.node (o42_6 P) .nil .nil) (.node (o58_6 P) .nil .nil))) (.node (o14_b P) (.node (o22_6 P) (.node (o38_6 P) .nil .nil) (.node (o54_6 P) .nil .nil)) (.node (o30_6 P) (.node (o46_6 P) .nil .nil) (.node (o62_7 P) .nil .nil))))))
noncomputable def o3_15 (P : Params) : Obj := ⟨(.type "dict"), none, (.dict (List.toArray [en P (S "__name__") 165 (.str (S "cpy313.email.quoprimime") 1296), en P (S "__doc__") 166 .none, en P (S "__package__") 167 .none, en P (S "__loader__") 168 (.builtin "__main__.__loader__#opaque"), en P (S "__spec__") 169 .none, en P (S "__annotations__") 170 (.ref 6), en P (S "__builtins__") 171 (.ref 4), en P (S "__file__") 173 (.str (S "/claim/cut.py") 172), en P (S "__cached__") 174 .none, en P (S "Error") 208 (.ref 24), en P (S "error_reply") 224 (.ref 37), en P (S "error_proto") 240 (.ref 49), en P (S "parse229") 253 (.ref 58), en P (S "CRLF") 255 (.str (S "\r\n") 254), en P (S "NL") 257 (.str (S "\n") 256), en P (S "_QUOPRI_MAP") 1285 (.ref 61), en P (S "_QUOPRI_HEADER_MAP") 1286 (.ref 66), en P (S "_QUOPRI_BODY_MAP") 1287 (.ref 68), en P (S "ascii_lowercase") 1289 (.str (S "abcdefghijklmnopqrstuvwxyz") 1288), en P (S "ascii_uppercase") 1291 (.str (S "ABCDEFGHIJKLMNOPQRSTUVWXYZ") 1290), en P (S "ascii_letters") 1293 (.str (S "abcdefghijklmnopqrstuvwxyzABCDEFGHIJKLMNOPQRSTUVWXYZ") 1292), en P (S "digits") 1295 (.str (S "0123456789") 1294), en P (S "c") 1306 (.int 57 1503)]) 23), Array.mk []⟩
noncomputable def o65_15 (_ : Params) : Obj := ⟨(.type "slice"), none, (.fields (Array.mk [.none, .none, .none])), Array.mk []⟩
noncomputable def o66_15 (_ : Params) : Obj := ⟨.type "list", none, .seq (Array.mk ((List.range 256).map q66a)) 0, Array.mk []⟩
noncomputable def o67_15 (_ : Params) : Obj := ⟨(.type "slice"), none, (.fields (Array.mk [.none, .none, .none])), Array.mk []⟩
noncomputable def o68_15 (_ : Params) : Obj := ⟨.type "list", none, .seq (Array.mk ((List.range 256).map q61)) 0, Array.mk []⟩
noncomputable def o69_15 (_ : Params) : Obj := ⟨(.type "bytes_iterator"), none, (.fields (Array.mk [.none, (.int 67 0)])), Array.mk []⟩
noncomputable def o70_15 (_ : Params) : Obj := ⟨(.type "tuple"), none, (.seq (Array.mk []) 0), Array.mk []⟩
noncomputable def o71_15 (_ : Params) : Obj := ⟨(.type "StopIteration"), none, (.fields (Array.mk [(.ref 70), .none, .none, .none, (.bool false), .none])), Array.mk []⟩
noncomputable def t_15 (P : Params) : BT := (.node (boot_o_0 P) (.node (boot_o_1 P) (.node (o3_15 P) (.node (boot_o_7 P) (.node (o15_6 P) (.node (o31_6 P) (.node (o63_7 P) .nil .nil) .nil) (.node (o47_6 P) .nil .nil)) (.node (o23_6 P) (.node (o39_6 P) (.node (o71_15 P) .nil .nil) .nil) (.node (o55_6 P) .nil .nil))) (.node (o11_b P) (.node (o19_6 P) (.node (o35_6 P) (.node (o67_15 P) .nil .nil) .nil) (.node (o51_6 P) .nil .nil)) (.node (o27_6 P) (.node (o43_6 P) .nil .nil) (.node (o59_7 P) .nil .nil)))) (.node (boot_o_5 P) (.node (boot_o_9 P) (.node (o17_6 P) (.node (o33_6 P) (.node (o65_15 P) .nil .nil) .nil) (.node (o49_6 P) .nil .nil)) (.node (o25_6 P) (.node (o41_6 P) .nil .nil) (.node (o57_6 P) .nil .nil))) (.node (o13_b P) (.node (o21_6 P) (.node (o37_6 P) (.node (o69_15 P) .nil .nil) .nil) (.node (o53_6 P) .nil .nil)) (.node (o29_6 P) (.node (o45_6 P) .nil .nil) (.node (o61_7 P) .nil .nil))))) (.node (o2_6 P) (.node (boot_o_4 P) (.node (boot_o_8 P) (.node (o16_6 P) (.node (o32_6 P) (.node (o64_7 P) .nil .nil) .nil) (.node (o48_6 P) .nil .nil)) (.node (o24_6 P) (.node (o40_6 P) .nil .nil) (.node (o56_6 P) .nil .nil))) (.node (o12_6 P) (.node (o20_6 P) (.node (o36_6 P) (.node (o68_15 P) .nil .nil) .nil) (.node (o52_6 P) .nil .nil)) (.node (o28_6 P) (.node (o44_6 P) .nil .nil) (.node (o60_7 P) .nil .nil)))) (.node (boot_o_6 P) (.node (boot_o_10 P) (.node (o18_6 P) (.node (o34_6 P) (.node (o66_15 P) .nil .nil) .nil) (.node (o50_6 P) .nil .nil)) (.node (o26_6 P) (.node (o42_6 P) .nil .nil) (.node (o58_6 P) .nil .nil))) (.node (o14_b P) (.node (o22_6 P) (.node (o38_6 P) (.node (o70_15 P) .nil .nil) .nil) (.node (o54_6 P) .nil .nil)) (.node (o30_6 P) (.node (o46_6 P) .nil .nil) (.node (o62_7 P) .nil .nil))))))
noncomputable def o3_17 (P : Params) : Obj := ⟨(.type "dict"), none, (.dict (List.toArray [en P (S "__name__") 165 (.str (S "cpy313.email.quoprimime") 1296), en P (S "__doc__") 166 .none, en P (S "__package__") 167 .none, en P (S "__loader__") 168 (.builtin "__main__.__loader__#opaque"), en P (S "__spec__") 169 .none, en P (S "__annotations__") 170 (.ref 6), en P (S "__builtins__") 171 (.ref 4), en P (S "__file__") 173 (.str (S "/claim/cut.py") 172), en P (S "__cached__") 174 .none, en P (S "Error") 208 (.ref 24), en P (S "error_reply") 224 (.ref 37), en P (S "error_proto") 240 (.ref 49), en P (S "parse229") 253 (.ref 58), en P (S "CRLF") 255 (.str (S "\r\n") 254), en P (S "NL") 257 (.str (S "\n") 256), en P (S "_QUOPRI_MAP") 1285 (.ref 61), en P (S "_QUOPRI_HEADER_MAP") 1286 (.ref 66), en P (S "_QUOPRI_BODY_MAP") 1287 (.ref 68), en P (S "ascii_lowercase") 1289 (.str (S "abcdefghijklmnopqrstuvwxyz") 1288), en P (S "ascii_uppercase") 1291 (.str (S "ABCDEFGHIJKLMNOPQRSTUVWXYZ") 1290), en P (S "ascii_letters") 1293 (.str (S "abcdefghijklmnopqrstuvwxyzABCDEFGHIJKLMNOPQRSTUVWXYZ") 1292), en P (S "digits") 1295 (.str (S "0123456789") 1294), en P (S "c") 1306 (.int 9 1792)]) 23), Array.mk []⟩
noncomputable def o66_17 (_ : Params) : Obj := ⟨.type "list", none, .seq (Array.mk ((List.range 256).map q66b)) 0, Array.mk []⟩
noncomputable def o68_17 (_ : Params) : Obj := ⟨.type "list", none, .seq (Array.mk ((List.range 256).map q68)) 0, Array.mk []⟩
noncomputable def o72_17 (_ : Params) : Obj := ⟨(.type "bytes_iterator"), none, (.fields (Array.mk [.none, (.int 95 0)])), Array.mk []⟩
noncomputable def o73_17 (_ : Params) : Obj := ⟨(.type "tuple"), none, (.seq (Array.mk []) 0), Array.mk []⟩
noncomputable def o74_17 (_ : Params) : Obj := ⟨(.type "StopIteration"), none, (.fields (Array.mk [(.ref 73), .none, .none, .none, (.bool false), .none])), Array.mk []⟩
noncomputable def t_17 (P : Params) : BT := (.node (boot_o_0 P) (.node (boot_o_1 P) (.node (o3_17 P) (.node (boot_o_7 P) (.node (o15_6 P) (.node (o31_6 P) (.node (o63_7 P) .nil .nil) .nil) (.node (o47_6 P) .nil .nil)) (.node (o23_6 P) (.node (o39_6 P) (.node (o71_15 P) .nil .nil) .nil) (.node (o55_6 P) .nil .nil))) (.node (o11_b P) (.node (o19_6 P) (.node (o35_6 P) (.node (o67_15 P) .nil .nil) .nil) (.node (o51_6 P) .nil .nil)) (.node (o27_6 P) (.node (o43_6 P) .nil .nil) (.node (o59_7 P) .nil .nil)))) (.node (boot_o_5 P) (.node (boot_o_9 P) (.node (o17_6 P) (.node (o33_6 P) (.node (o65_15 P) .nil .nil) .nil) (.node (o49_6 P) .nil .nil)) (.node (o25_6 P) (.node (o41_6 P) (.node (o73_17 P) .nil .nil) .nil) (.node (o57_6 P) .nil .nil))) (.node (o13_b P) (.node (o21_6 P) (.node (o37_6 P) (.node (o69_15 P) .nil .nil) .nil) (.node (o53_6 P) .nil .nil)) (.node (o29_6 P) (.node (o45_6 P) .nil .nil) (.node (o61_7 P) .nil .nil))))) (.node (o2_6 P) (.node (boot_o_4 P) (.node (boot_o_8 P) (.node (o16_6 P) (.node (o32_6 P) (.node (o64_7 P) .nil .nil) .nil) (.node (o48_6 P) .nil .nil)) (.node (o24_6 P) (.node (o40_6 P) (.node (o72_17 P) .nil .nil) .nil) (.node (o56_6 P) .nil .nil))) (.node (o12_6 P) (.node (o20_6 P) (.node (o36_6 P) (.node (o68_17 P) .nil .nil) .nil) (.node (o52_6 P) .nil .nil)) (.node (o28_6 P) (.node (o44_6 P) .nil .nil) (.node (o60_7 P) .nil .nil)))) (.node (boot_o_6 P) (.node (boot_o_10 P) (.node (o18_6 P) (.node (o34_6 P) (.node (o66_17 P) .nil .nil) .nil) (.node (o50_6 P) .nil .nil)) (.node (o26_6 P) (.node (o42_6 P) (.node (o74_17 P) .nil .nil) .nil) (.node (o58_6 P) .nil .nil))) (.node (o14_b P) (.node (o22_6 P) (.node (o38_6 P) (.node (o70_15 P) .nil .nil) .nil) (.node (o54_6 P) .nil .nil)) (.node (o30_6 P) (.node (o46_6 P) .nil .nil) (.node (o62_7 P) .nil .nil))))))
noncomputable def o3_30 (P : Params) : Obj := ⟨(.type "dict"), none, (.dict (List.toArray [en P (S "__name__") 165 (.str (S "law_rw0035_01") 1830), en P (S "__doc__") 166 .none, en P (S "__package__") 167 .none, en P (S "__loader__") 168 (.builtin "__main__.__loader__#opaque"), en P (S "__spec__") 169 .none, en P (S "__annotations__") 170 (.ref 6), en P (S "__builtins__") 171 (.ref 4), en P (S "__file__") 173 (.str (S "/claim/cut.py") 172), en P (S "__cached__") 174 .none, en P (S "Error") 208 (.ref 24), en P (S "error_reply") 224 (.ref 37), en P (S "error_proto") 240 (.ref 49), en P (S "parse229") 253 (.ref 58), en P (S "CRLF") 255 (.str (S "\r\n") 254), en P (S "NL") 257 (.str (S "\n") 256), en P (S "_QUOPRI_MAP") 1285 (.ref 61), en P (S "_QUOPRI_HEADER_MAP") 1286 (.ref 66), en P (S "_QUOPRI_BODY_MAP") 1287 (.ref 68), en P (S "ascii_lowercase") 1289 (.str (S "abcdefghijklmnopqrstuvwxyz") 1288), en P (S "ascii_uppercase") 1291 (.str (S "ABCDEFGHIJKLMNOPQRSTUVWXYZ") 1290), en P (S "ascii_letters") 1293 (.str (S "abcdefghijklmnopqrstuvwxyzABCDEFGHIJKLMNOPQRSTUVWXYZ") 1292), en P (S "digits") 1295 (.str (S "0123456789") 1294), en P (S "quote") 1801 (.ref 81), en P (S "_QUOPRI_BODY_ENCODE_MAP") 1802 (.ref 83), en P (S "body_encode") 1829 (.ref 94), en P (S "_law_sign") 1838 (.ref 101), en P (S "_law_piece") 1845 (.ref 108), en P (S "_law_rows") 1851 (.ref 113), en P (S "_law_read") 1857 (.ref 118), en P (S "_law_due") 1870 (.ref 125), en P (S "_law_heard") 1879 (.ref 132), en P (S "law") 1885 (.ref 137)]) 34), Array.mk []⟩
noncomputable def o12_30 (_ : Params) : Obj := ⟨.none, none, (.fields (Array.mk [(.int 2 0), (.int 0 0), (.ref 20), (.int 4 0), (.int 0 0), (.ref 33), (.int 6 0), (.int 0 0), (.ref 45), (.int 8 0), (.int 0 0), (.ref 57), (.int 40 0), (.int 0 0), (.ref 80), (.int 46 0), (.int 0 0), (.ref 93), (.int 85 0), (.int 0 0), (.ref 100), (.int 89 0), (.int 0 0), (.ref 107), (.int 93 0), (.int 0 0), (.ref 112), (.int 112 0), (.int 0 0), (.ref 117), (.int 123 0), (.int 0 0), (.ref 124), (.int 140 0), (.int 0 0), (.ref 131), (.int 149 0), (.int 0 0), (.ref 136)])), Array.mk []⟩
noncomputable def o75_30 (_ : Params) : Obj := ⟨(.type "tuple"), none, (.seq (Array.mk []) 0), Array.mk []⟩
noncomputable def o76_30 (_ : Params) : Obj := ⟨.none, none, (.fields (Array.mk [])), Array.mk []⟩
noncomputable def o77_30 (_ : Params) : Obj := ⟨(.type "tuple"), none, (.seq (Array.mk [(.str (S "c") 1798)]) 0), Array.mk []⟩
noncomputable def o78_30 (_ : Params) : Obj := ⟨(.type "tuple"), none, (.seq (Array.mk []) 0), Array.mk []⟩
noncomputable def o79_30 (_ : Params) : Obj := ⟨.none, none, (.func (fnD 18 0 0 .none .none .none .none none .none .none)), Array.mk []⟩
noncomputable def o80_30 (_ : Params) : Obj := ⟨(.type "code"), none, (.fields (Array.mk [(.str (S "quote") 1795), (.str (S "quote") 1796), (.str (S "/claim/cut.py") 1797), (.int 40 0), (.int 1 0), (.int 0 0), (.int 0 0), (.int 3 0), (.ref 75), (.bool true), (.int 181 0), (.ref 76), .none, (.ref 77), (.ref 78), (.ref 79), (.int 1799 0), (.int 40 0), (.str (S "/claim/cut.py") 1800)])), Array.mk []⟩
noncomputable def o81_30 (_ : Params) : Obj := ⟨(.type "function"), none, (.func (fnD 18 3 0 .none .none .none (.str (S "cpy313.email.quoprimime") 1296) none (.ref 80) .none)), Array.mk []⟩
noncomputable def o82_30 (_ : Params) : Obj := ⟨(.type "slice"), none, (.fields (Array.mk [.none, .none, .none])), Array.mk []⟩
noncomputable def o83_30 (_ : Params) : Obj := ⟨.type "list", none, .seq (Array.mk ((List.range 256).map q83)) 0, Array.mk []⟩
noncomputable def o84_30 (_ : Params) : Obj := ⟨(.type "bytes_iterator"), none, (.fields (Array.mk [.none, (.int 2 0)])), Array.mk []⟩
noncomputable def o85_30 (_ : Params) : Obj := ⟨(.type "tuple"), none, (.seq (Array.mk []) 0), Array.mk []⟩
noncomputable def o86_30 (_ : Params) : Obj := ⟨(.type "StopIteration"), none, (.fields (Array.mk [(.ref 85), .none, .none, .none, (.bool false), .none])), Array.mk []⟩
noncomputable def o87_30 (_ : Params) : Obj := ⟨(.type "tuple"), none, (.seq (Array.mk [(.int 76 1810), (.str (S "\n") 256)]) 0), Array.mk []⟩
noncomputable def o88_30 (_ : Params) : Obj := ⟨(.type "tuple"), none, (.seq (Array.mk []) 0), Array.mk []⟩
noncomputable def o89_30 (_ : Params) : Obj := ⟨.none, none, (.fields (Array.mk [])), Array.mk []⟩
noncomputable def o90_30 (_ : Params) : Obj := ⟨(.type "tuple"), none, (.seq (Array.mk [(.str (S "body") 1814), (.str (S "maxlinelen") 1815), (.str (S "eol") 1816), (.str (S "soft_break") 1817), (.str (S "maxlinelen1") 1818), (.str (S "encoded_body") 1819), (.str (S "append") 1820), (.str (S "line") 1821), (.str (S "start") 1822), (.str (S "laststart") 1823), (.str (S "stop") 1824), (.str (S "room") 1825), (.str (S "q") 1826)]) 0), Array.mk []⟩
noncomputable def o91_30 (_ : Params) : Obj := ⟨(.type "tuple"), none, (.seq (Array.mk []) 0), Array.mk []⟩
noncomputable def o92_30 (_ : Params) : Obj := ⟨.none, none, (.func (fnD 22 0 0 .none .none .none .none none .none .none)), Array.mk []⟩
noncomputable def o93_30 (_ : Params) : Obj := ⟨(.type "code"), none, (.fields (Array.mk [(.str (S "body_encode") 1811), (.str (S "body_encode") 1812), (.str (S "/claim/cut.py") 1813), (.int 46 0), (.int 3 0), (.int 0 0), (.int 0 0), (.int 3 0), (.ref 88), (.bool true), (.int 181 0), (.ref 89), .none, (.ref 90), (.ref 91), (.ref 92), (.int 1827 0), (.int 46 0), (.str (S "/claim/cut.py") 1828)])), Array.mk []⟩
noncomputable def o94_30 (_ : Params) : Obj := ⟨(.type "function"), none, (.func (fnD 22 3 0 (.ref 87) .none .none (.str (S "cpy313.email.quoprimime") 1296) none (.ref 93) .none)), Array.mk []⟩
noncomputable def o95_30 (_ : Params) : Obj := ⟨(.type "tuple"), none, (.seq (Array.mk []) 0), Array.mk []⟩
noncomputable def o96_30 (_ : Params) : Obj := ⟨.none, none, (.fields (Array.mk [])), Array.mk []⟩
noncomputable def o97_30 (_ : Params) : Obj := ⟨(.type "tuple"), none, (.seq (Array.mk [(.str (S "kind") 1835)]) 0), Array.mk []⟩
noncomputable def o98_30 (_ : Params) : Obj := ⟨(.type "tuple"), none, (.seq (Array.mk []) 0), Array.mk []⟩
noncomputable def o99_30 (_ : Params) : Obj := ⟨.none, none, (.func (fnD 24 0 0 .none .none .none .none none .none .none)), Array.mk []⟩
noncomputable def o100_30 (_ : Params) : Obj := ⟨(.type "code"), none, (.fields (Array.mk [(.str (S "_law_sign") 1832), (.str (S "_law_sign") 1833), (.str (S "/claim/cut.py") 1834), (.int 85 0), (.int 1 0), (.int 0 0), (.int 0 0), (.int 3 0), (.ref 95), (.bool true), (.int 181 0), (.ref 96), .none, (.ref 97), (.ref 98), (.ref 99), (.int 1836 0), (.int 85 0), (.str (S "/claim/cut.py") 1837)])), Array.mk []⟩
noncomputable def o101_30 (_ : Params) : Obj := ⟨(.type "function"), none, (.func (fnD 24 3 0 .none .none .none (.str (S "law_rw0035_01") 1830) none (.ref 100) .none)), Array.mk []⟩
noncomputable def o102_30 (_ : Params) : Obj := ⟨(.type "tuple"), none, (.seq (Array.mk []) 0), Array.mk []⟩
noncomputable def o103_30 (_ : Params) : Obj := ⟨.none, none, (.fields (Array.mk [])), Array.mk []⟩
noncomputable def o104_30 (_ : Params) : Obj := ⟨(.type "tuple"), none, (.seq (Array.mk [(.str (S "kind") 1842)]) 0), Array.mk []⟩
noncomputable def o105_30 (_ : Params) : Obj := ⟨(.type "tuple"), none, (.seq (Array.mk []) 0), Array.mk []⟩
noncomputable def o106_30 (_ : Params) : Obj := ⟨.none, none, (.func (fnD 25 0 0 .none .none .none .none none .none .none)), Array.mk []⟩
noncomputable def o107_30 (_ : Params) : Obj := ⟨(.type "code"), none, (.fields (Array.mk [(.str (S "_law_piece") 1839), (.str (S "_law_piece") 1840), (.str (S "/claim/cut.py") 1841), (.int 89 0), (.int 1 0), (.int 0 0), (.int 0 0), (.int 3 0), (.ref 102), (.bool true), (.int 181 0), (.ref 103), .none, (.ref 104), (.ref 105), (.ref 106), (.int 1843 0), (.int 89 0), (.str (S "/claim/cut.py") 1844)])), Array.mk []⟩
noncomputable def o108_30 (_ : Params) : Obj := ⟨(.type "function"), none, (.func (fnD 25 3 0 .none .none .none (.str (S "law_rw0035_01") 1830) none (.ref 107) .none)), Array.mk []⟩
noncomputable def o109_30 (_ : Params) : Obj := ⟨(.type "tuple"), none, (.seq (Array.mk []) 0), Array.mk []⟩
noncomputable def o110_30 (_ : Params) : Obj := ⟨.none, none, (.fields (Array.mk [])), Array.mk []⟩
noncomputable def o111_30 (_ : Params) : Obj := ⟨.none, none, (.func (fnD 26 0 0 .none .none .none .none none .none .none)), Array.mk []⟩
noncomputable def o112_30 (_ : Params) : Obj := ⟨(.type "code"), none, (.fields (Array.mk [(.str (S "_law_rows") 1846), (.str (S "_law_rows") 1847), (.str (S "/claim/cut.py") 1848), (.int 93 0), (.int 2 0), (.int 0 0), (.int 0 0), (.int 3 0), (.ref 109), (.bool true), (.int 181 0), (.ref 110), .none, .none, .none, (.ref 111), (.int 1849 0), (.int 93 0), (.str (S "/claim/cut.py") 1850)])), Array.mk []⟩
noncomputable def o113_30 (_ : Params) : Obj := ⟨(.type "function"), none, (.func (fnD 26 3 0 .none .none .none (.str (S "law_rw0035_01") 1830) none (.ref 112) .none)), Array.mk []⟩
noncomputable def o114_30 (_ : Params) : Obj := ⟨(.type "tuple"), none, (.seq (Array.mk []) 0), Array.mk []⟩
noncomputable def o115_30 (_ : Params) : Obj := ⟨.none, none, (.fields (Array.mk [])), Array.mk []⟩
noncomputable def o116_30 (_ : Params) : Obj := ⟨.none, none, (.func (fnD 27 0 0 .none .none .none .none none .none .none)), Array.mk []⟩
noncomputable def o117_30 (_ : Params) : Obj := ⟨(.type "code"), none, (.fields (Array.mk [(.str (S "_law_read") 1852), (.str (S "_law_read") 1853), (.str (S "/claim/cut.py") 1854), (.int 112 0), (.int 1 0), (.int 0 0), (.int 0 0), (.int 3 0), (.ref 114), (.bool true), (.int 181 0), (.ref 115), .none, .none, .none, (.ref 116), (.int 1855 0), (.int 112 0), (.str (S "/claim/cut.py") 1856)])), Array.mk []⟩
noncomputable def o118_30 (_ : Params) : Obj := ⟨(.type "function"), none, (.func (fnD 27 3 0 .none .none .none (.str (S "law_rw0035_01") 1830) none (.ref 117) .none)), Array.mk []⟩
noncomputable def o119_30 (_ : Params) : Obj := ⟨(.type "tuple"), none, (.seq (Array.mk []) 0), Array.mk []⟩
noncomputable def o120_30 (_ : Params) : Obj := ⟨.none, none, (.fields (Array.mk [])), Array.mk []⟩
noncomputable def o121_30 (_ : Params) : Obj := ⟨(.type "tuple"), none, (.seq (Array.mk [(.str (S "kinds") 1861), (.str (S "width") 1862), (.str (S "blank") 1863), (.str (S "rows") 1864), (.str (S "line") 1865), (.str (S "kind") 1866), (.str (S "row") 1867)]) 0), Array.mk []⟩
noncomputable def o122_30 (_ : Params) : Obj := ⟨(.type "tuple"), none, (.seq (Array.mk []) 0), Array.mk []⟩
noncomputable def o123_30 (_ : Params) : Obj := ⟨.none, none, (.func (fnD 28 0 0 .none .none .none .none none .none .none)), Array.mk []⟩
noncomputable def o124_30 (_ : Params) : Obj := ⟨(.type "code"), none, (.fields (Array.mk [(.str (S "_law_due") 1858), (.str (S "_law_due") 1859), (.str (S "/claim/cut.py") 1860), (.int 123 0), (.int 3 0), (.int 0 0), (.int 0 0), (.int 3 0), (.ref 119), (.bool true), (.int 181 0), (.ref 120), .none, (.ref 121), (.ref 122), (.ref 123), (.int 1868 0), (.int 123 0), (.str (S "/claim/cut.py") 1869)])), Array.mk []⟩
noncomputable def o125_30 (_ : Params) : Obj := ⟨(.type "function"), none, (.func (fnD 28 3 0 .none .none .none (.str (S "law_rw0035_01") 1830) none (.ref 124) .none)), Array.mk []⟩
noncomputable def o126_30 (_ : Params) : Obj := ⟨(.type "tuple"), none, (.seq (Array.mk []) 0), Array.mk []⟩
noncomputable def o127_30 (_ : Params) : Obj := ⟨.none, none, (.fields (Array.mk [])), Array.mk []⟩
noncomputable def o128_30 (_ : Params) : Obj := ⟨(.type "tuple"), none, (.seq (Array.mk [(.str (S "body") 1874), (.str (S "width") 1875), (.str (S "blank") 1876)]) 0), Array.mk []⟩
noncomputable def o129_30 (_ : Params) : Obj := ⟨(.type "tuple"), none, (.seq (Array.mk []) 0), Array.mk []⟩
noncomputable def o130_30 (_ : Params) : Obj := ⟨.none, none, (.func (fnD 29 0 0 .none .none .none .none none .none .none)), Array.mk []⟩
noncomputable def o131_30 (_ : Params) : Obj := ⟨(.type "code"), none, (.fields (Array.mk [(.str (S "_law_heard") 1871), (.str (S "_law_heard") 1872), (.str (S "/claim/cut.py") 1873), (.int 140 0), (.int 3 0), (.int 0 0), (.int 0 0), (.int 3 0), (.ref 126), (.bool true), (.int 181 0), (.ref 127), .none, (.ref 128), (.ref 129), (.ref 130), (.int 1877 0), (.int 140 0), (.str (S "/claim/cut.py") 1878)])), Array.mk []⟩
noncomputable def o132_30 (_ : Params) : Obj := ⟨(.type "function"), none, (.func (fnD 29 3 0 .none .none .none (.str (S "law_rw0035_01") 1830) none (.ref 131) .none)), Array.mk []⟩
noncomputable def o133_30 (_ : Params) : Obj := ⟨(.type "tuple"), none, (.seq (Array.mk []) 0), Array.mk []⟩
noncomputable def o134_30 (_ : Params) : Obj := ⟨.none, none, (.fields (Array.mk [])), Array.mk []⟩
noncomputable def o135_30 (_ : Params) : Obj := ⟨.none, none, (.func (fnD 30 0 0 .none .none .none .none none .none .none)), Array.mk []⟩
noncomputable def o136_30 (_ : Params) : Obj := ⟨(.type "code"), none, (.fields (Array.mk [(.str (S "law") 1880), (.str (S "law") 1881), (.str (S "/claim/cut.py") 1882), (.int 149 0), (.int 1 0), (.int 0 0), (.int 0 0), (.int 3 0), (.ref 133), (.bool true), (.int 181 0), (.ref 134), .none, .none, .none, (.ref 135), (.int 1883 0), (.int 149 0), (.str (S "/claim/cut.py") 1884)])), Array.mk []⟩
noncomputable def o137_30 (_ : Params) : Obj := ⟨(.type "function"), none, (.func (fnD 30 3 0 .none .none .none (.str (S "law_rw0035_01") 1830) none (.ref 136) .none)), Array.mk []⟩
noncomputable def t_30 (P : Params) : BT := (.node (boot_o_0 P) (.node (boot_o_1 P) (.node (o3_30 P) (.node (boot_o_7 P) (.node (o15_6 P) (.node (o31_6 P) (.node (o63_7 P) (.node (o127_30 P) .nil .nil) .nil) (.node (o95_30 P) .nil .nil)) (.node (o47_6 P) (.node (o79_30 P) .nil .nil) (.node (o111_30 P) .nil .nil))) (.node (o23_6 P) (.node (o39_6 P) (.node (o71_15 P) (.node (o135_30 P) .nil .nil) .nil) (.node (o103_30 P) .nil .nil)) (.node (o55_6 P) (.node (o87_30 P) .nil .nil) (.node (o119_30 P) .nil .nil)))) (.node (o11_b P) (.node (o19_6 P) (.node (o35_6 P) (.node (o67_15 P) (.node (o131_30 P) .nil .nil) .nil) (.node (o99_30 P) .nil .nil)) (.node (o51_6 P) (.node (o83_30 P) .nil .nil) (.node (o115_30 P) .nil .nil))) (.node (o27_6 P) (.node (o43_6 P) (.node (o75_30 P) .nil .nil) (.node (o107_30 P) .nil .nil)) (.node (o59_7 P) (.node (o91_30 P) .nil .nil) (.node (o123_30 P) .nil .nil))))) (.node (boot_o_5 P) (.node (boot_o_9 P) (.node (o17_6 P) (.node (o33_6 P) (.node (o65_15 P) (.node (o129_30 P) .nil .nil) .nil) (.node (o97_30 P) .nil .nil)) (.node (o49_6 P) (.node (o81_30 P) .nil .nil) (.node (o113_30 P) .nil .nil))) (.node (o25_6 P) (.node (o41_6 P) (.node (o73_17 P) (.node (o137_30 P) .nil .nil) .nil) (.node (o105_30 P) .nil .nil)) (.node (o57_6 P) (.node (o89_30 P) .nil .nil) (.node (o121_30 P) .nil .nil)))) (.node (o13_b P) (.node (o21_6 P) (.node (o37_6 P) (.node (o69_15 P) (.node (o133_30 P) .nil .nil) .nil) (.node (o101_30 P) .nil .nil)) (.node (o53_6 P) (.node (o85_30 P) .nil .nil) (.node (o117_30 P) .nil .nil))) (.node (o29_6 P) (.node (o45_6 P) (.node (o77_30 P) .nil .nil) (.node (o109_30 P) .nil .nil)) (.node (o61_7 P) (.node (o93_30 P) .nil .nil) (.node (o125_30 P) .nil .nil)))))) (.node (o2_6 P) (.node (boot_o_4 P) (.node (boot_o_8 P) (.node (o16_6 P) (.node (o32_6 P) (.node (o64_7 P) (.node (o128_30 P) .nil .nil) .nil) (.node (o96_30 P) .nil .nil)) (.node (o48_6 P) (.node (o80_30 P) .nil .nil) (.node (o112_30 P) .nil .nil))) (.node (o24_6 P) (.node (o40_6 P) (.node (o72_17 P) (.node (o136_30 P) .nil .nil) .nil) (.node (o104_30 P) .nil .nil)) (.node (o56_6 P) (.node (o88_30 P) .nil .nil) (.node (o120_30 P) .nil .nil)))) (.node (o12_30 P) (.node (o20_6 P) (.node (o36_6 P) (.node (o68_17 P) (.node (o132_30 P) .nil .nil) .nil) (.node (o100_30 P) .nil .nil)) (.node (o52_6 P) (.node (o84_30 P) .nil .nil) (.node (o116_30 P) .nil .nil))) (.node (o28_6 P) (.node (o44_6 P) (.node (o76_30 P) .nil .nil) (.node (o108_30 P) .nil .nil)) (.node (o60_7 P) (.node (o92_30 P) .nil .nil) (.node (o124_30 P) .nil .nil))))) (.node (boot_o_6 P) (.node (boot_o_10 P) (.node (o18_6 P) (.node (o34_6 P) (.node (o66_17 P) (.node (o130_30 P) .nil .nil) .nil) (.node (o98_30 P) .nil .nil)) (.node (o50_6 P) (.node (o82_30 P) .nil .nil) (.node (o114_30 P) .nil .nil))) (.node (o26_6 P) (.node (o42_6 P) (.node (o74_17 P) .nil .nil) (.node (o106_30 P) .nil .nil)) (.node (o58_6 P) (.node (o90_30 P) .nil .nil) (.node (o122_30 P) .nil .nil)))) (.node (o14_b P) (.node (o22_6 P) (.node (o38_6 P) (.node (o70_15 P) (.node (o134_30 P) .nil .nil) .nil) (.node (o102_30 P) .nil .nil)) (.node (o54_6 P) (.node (o86_30 P) .nil .nil) (.node (o118_30 P) .nil .nil))) (.node (o30_6 P) (.node (o46_6 P) (.node (o78_30 P) .nil .nil) (.node (o110_30 P) .nil .nil)) (.node (o62_7 P) (.node (o94_30 P) .nil .nil) (.node (o126_30 P) .nil .nil)))))))
noncomputable def envM : Env := { scope := pw.main.scope, locals := mainNs, globals := mainNs, cells := [], code := .ref 13, frame := some 14 }
noncomputable def ann0 : Option Value := some (.ref 6)
noncomputable def pos0 : Pos := ⟨0, 0, 0, 0⟩
noncomputable def cE : Code := Code.body (behindTheImports pw) envM
noncomputable def B0 : List Frame := [topFrame pos0]
noncomputable def stm (a n : Nat) : List Stmt := (pw.main.body.drop a).take n
noncomputable def H0 (P : Params) : Heap := boot_heap P
noncomputable def Hb (P : Params) : Heap := Heap.mk (Array.mk [boot_o_0 P, boot_o_1 P, boot_o_2 P, boot_o_3 P, boot_o_4 P, boot_o_5 P, boot_o_6 P, boot_o_7 P, boot_o_8 P, boot_o_9 P, boot_o_10 P, o11_b P, o12_b P, o13_b P, o14_b P]) {}
noncomputable def H1 (P : Params) : Heap := Heap.mk (Array.mk [boot_o_0 P, boot_o_1 P, o2_6 P, o3_30 P, boot_o_4 P, boot_o_5 P, boot_o_6 P, boot_o_7 P, boot_o_8 P, boot_o_9 P, boot_o_10 P, o11_b P, o12_30 P, o13_b P, o14_b P, o15_6 P, o16_6 P, o17_6 P, o18_6 P, o19_6 P, o20_6 P, o21_6 P, o22_6 P, o23_6 P, o24_6 P, o25_6 P, o26_6 P, o27_6 P, o28_6 P, o29_6 P, o30_6 P, o31_6 P, o32_6 P, o33_6 P, o34_6 P, o35_6 P, o36_6 P, o37_6 P, o38_6 P, o39_6 P, o40_6 P, o41_6 P, o42_6 P, o43_6 P, o44_6 P, o45_6 P, o46_6 P, o47_6 P, o48_6 P, o49_6 P, o50_6 P, o51_6 P, o52_6 P, o53_6 P, o54_6 P, o55_6 P, o56_6 P, o57_6 P, o58_6 P, o59_7 P, o60_7 P, o61_7 P, o62_7 P, o63_7 P, o64_7 P, o65_15 P, o66_17 P, o67_15 P, o68_17 P, o69_15 P, o70_15 P, o71_15 P, o72_17 P, o73_17 P, o74_17 P, o75_30 P, o76_30 P, o77_30 P, o78_30 P, o79_30 P, o80_30 P, o81_30 P, o82_30 P, o83_30 P, o84_30 P, o85_30 P, o86_30 P, o87_30 P, o88_30 P, o89_30 P, o90_30 P, o91_30 P, o92_30 P, o93_30 P, o94_30 P, o95_30 P, o96_30 P, o97_30 P, o98_30 P, o99_30 P, o100_30 P, o101_30 P, o102_30 P, o103_30 P, o104_30 P, o105_30 P, o106_30 P, o107_30 P, o108_30 P, o109_30 P, o110_30 P, o111_30 P, o112_30 P, o113_30 P, o114_30 P, o115_30 P, o116_30 P, o117_30 P, o118_30 P, o119_30 P, o120_30 P, o121_30 P, o122_30 P, o123_30 P, o124_30 P, o125_30 P, o126_30 P, o127_30 P, o128_30 P, o129_30 P, o130_30 P, o131_30 P, o132_30 P, o133_30 P, o134_30 P, o135_30 P, o136_30 P, o137_30 P]) {}
noncomputable def noGens : Array GenState := Array.mk []
noncomputable def S0 (w : World) (os : OsState) : Shared := ⟨H0 w.params, noGens, boot_drawn, boot_toks, os⟩
noncomputable def Sa (w : World) (os : OsState) : Shared := ⟨Hb w.params, noGens, {}, 187, os⟩
noncomputable def S1 (w : World) (os : OsState) : Shared := ⟨H1 w.params, noGens, {}, 1886, os⟩
noncomputable def T_b (w : World) (os : OsState) : SharedT := ⟨t_b w.params, 15, {}, noGens, {}, 187, os⟩
noncomputable def p_b : Pos := ⟨0, 0, 0, 0⟩
noncomputable def T_6 (w : World) (os : OsState) : SharedT := ⟨t_6 w.params, 59, {}, noGens, {}, 258, os⟩
noncomputable def p_6 : Pos := ⟨26, 0, 26, 2⟩
noncomputable def T_7 (w : World) (os : OsState) : SharedT := ⟨t_7 w.params, 65, {}, noGens, {}, 1286, os⟩
noncomputable def p_7 : Pos := ⟨27, 0, 27, 11⟩
noncomputable def T_15 (w : World) (os : OsState) : SharedT := ⟨t_15 w.params, 72, {}, noGens, {}, 1506, os⟩
noncomputable def p_15 : Pos := ⟨35, 9, 35, 74⟩
noncomputable def T_17 (w : World) (os : OsState) : SharedT := ⟨t_17 w.params, 75, {}, noGens, {}, 1795, os⟩
noncomputable def p_17 : Pos := ⟨38, 9, 38, 110⟩
noncomputable def T_30 (w : World) (os : OsState) : SharedT := ⟨t_30 w.params, 138, {}, noGens, {}, 1886, os⟩
noncomputable def p_30 : Pos := ⟨149, 0, 161, 15⟩
noncomputable def keepF (_ : World → Prop) : Bool := true
noncomputable def pcPre (w : World) : Prop := ∀ os, topGo treeTable pw w 11 ann0 12 (S0 w os) (topStub pw) = some (Sa w os, ⟨denote treeTable cE, cE, pos0, B0⟩)
theorem pcPre_a (w : World) : pcPre w := by intro os; kernel_rfl
theorem pcPre_ok (w : World) : pcPre w := pcPre_a w
noncomputable def pcBlock (w : World) : Prop := ∀ os, segRun treeTable pw w 11 ann0 1 1 (Sa w os) (blockOf (behindTheImports pw) envM cE pos0 B0) = some (.next, (T_b w os).abs, cE, p_b)
theorem pcBlock_a (w : World) : pcBlock w := by intro os; kernel_rfl
theorem pcBlock_ok (w : World) : pcBlock w := pcBlock_a w
noncomputable def pc0 (w : World) : Prop := ∀ os, segRunT treeTable pw w 11 ann0 1 685 (T_b w os) (piecesOf (stm 0 7) envM cE p_b B0) = some (.next, T_6 w os, cE, p_6)
theorem pc0_a (w : World) : pc0 w := by intro os; kernel_rfl
theorem pc0_ok (w : World) : pc0 w := pc0_a w
noncomputable def pc1 (w : World) : Prop := ∀ os, segRunT treeTable pw w 11 ann0 1 9552 (T_6 w os) (piecesOf (stm 7 1) envM cE p_6 B0) = some (.next, T_7 w os, cE, p_7)
noncomputable def w00 (w : World) : World := (w.withFollow "special-get-raises" false).withFollow "comprehension-iter-twice" false
noncomputable def K1 (w : World) (os : OsState) : Thread := match segGoT treeTable pw (w00 w) 11 ann0 1 88 (T_6 w os) (piecesOf (stm 7 1) envM cE p_6 B0) with
  | some (_, t) => t
  | none => ⟨doneF .next, cE, p_6, B0⟩
noncomputable def r59 (_ : Params) : Obj := ⟨.type "range", none, .fields (Array.mk [.int 0 259, .int 256 258, .int 1 260]), Array.mk []⟩
noncomputable def i60 (j : Nat) : Obj := ⟨.type "range_iterator", none, .fields (Array.mk [.int (Int.ofNat j) 0, .int (Int.ofNat (Nat.sub 256 j)) 0, .int 1 0]), Array.mk []⟩
noncomputable def l61 (j : Nat) : Obj := ⟨.type "list", none, .seq (Array.mk ((List.range j).map q61)) j, Array.mk []⟩
noncomputable def d62 (P : Params) (j : Nat) : Obj := ⟨.type "dict", none, .dict (List.toArray [en P (Str.ofString "c") 262 (.int (Int.ofNat (Nat.sub j 1)) (257 + 4 * j))]) 1, Array.mk []⟩
noncomputable def M1 (j : Nat) (w : World) (os : OsState) : SharedT := ⟨((((t_6 w.params).ins 59 (r59 w.params)).ins 60 (i60 j)).ins 61 (l61 j)).ins 62 (d62 w.params j), 63, {}, noGens, {}, 261 + 4 * j, os⟩
theorem segT_go {tb : String → Option Builtin} {p : Program} {w : World} {n₀ : Nat} {ann : Option Value} {b : Nat} {N : Nat} {r : Flow × SharedT × Code × PySem.Pos} : ∀ {n : Nat} {s s' : SharedT} {t t' : Thread}, segGoT tb p w n₀ ann b n s t = some (s', t') →
    segRunT tb p w n₀ ann b N s' t' = some r → segRunT tb p w n₀ ann b (n + N) s t = some r
  | 0, s, s', t, t', h, k => by
    obtain ⟨rfl, rfl⟩ : s = s' ∧ t = t' := by simpa [segGoT] using h
    rw [Nat.zero_add]; exact k
  | n + 1, s, s', t, t', h, k => by
    rw [show n + 1 + N = n + N + 1 by omega]
    unfold segGoT at h
    unfold segRunT
    cases he : endAt b t with
    | some f => rw [he] at h; cases h
    | none =>
      rw [he] at h
      cases hk : stepOk n₀ ann t with
      | false => rw [hk] at h; cases h
      | true =>
        rw [hk] at h
        cases hs : stepT (denote tb) p w s t with
        | none => rw [hs] at h; cases h
        | some x => obtain ⟨s₂, t₂⟩ := x; rw [hs] at h; exact segT_go h k
theorem segT_mono {tb : String → Option Builtin} {p : Program} {w : World} {n₀ : Nat} {ann : Option Value} {b : Nat} {r : Flow × SharedT × Code × PySem.Pos} (k : Nat) : ∀ {n : Nat} {s : SharedT} {t : Thread}, segRunT tb p w n₀ ann b n s t = some r → segRunT tb p w n₀ ann b (n + k) s t = some r
  | 0, _, _, h => by simp [segRunT] at h
  | n + 1, s, t, h => by
    rw [show n + 1 + k = n + k + 1 by omega]
    unfold segRunT at h ⊢
    cases he : endAt b t with
    | some f => rw [he] at h; exact h
    | none =>
      rw [he] at h
      cases hk : stepOk n₀ ann t with
      | false => rw [hk] at h; cases h
      | true =>
        rw [hk] at h
        cases hs : stepT (denote tb) p w s t with
        | none => rw [hs] at h; cases h
        | some x => obtain ⟨s₂, t₂⟩ := x; rw [hs] at h; exact segT_mono k h
theorem pc1_b1 (w : World) (os : OsState) : segGoT treeTable pw w 11 ann0 1 2331 (M1 1 w os) (K1 w os) = some (M1 64 w os, K1 w os) := by kernel_rfl
theorem pc1_b2 (w : World) (os : OsState) : segGoT treeTable pw w 11 ann0 1 2368 (M1 64 w os) (K1 w os) = some (M1 128 w os, K1 w os) := by kernel_rfl
theorem pc1_b3 (w : World) (os : OsState) : segGoT treeTable pw w 11 ann0 1 2368 (M1 128 w os) (K1 w os) = some (M1 192 w os, K1 w os) := by kernel_rfl
theorem pc1_b4 (w : World) (os : OsState) : segGoT treeTable pw w 11 ann0 1 2368 (M1 192 w os) (K1 w os) = some (M1 256 w os, K1 w os) := by kernel_rfl
theorem pc1_e (w : World) (os : OsState) : segRunT treeTable pw w 11 ann0 1 29 (M1 256 w os) (K1 w os) = some (.next, T_7 w os, cE, p_7) := by kernel_rfl
noncomputable def pc1s (n : Nat) (w : World) : Prop := ∀ os, segGoT treeTable pw w 11 ann0 1 n (T_6 w os) (piecesOf (stm 7 1) envM cE p_6 B0) = some (M1 1 w os, K1 w os)
theorem pc1_of {n : Nat} {w : World} (k : Nat) (h : pc1s n w) (e : n + 9464 + k = 9552) : pc1 w := fun os => by
  have r := segT_mono k (segT_go (h os) (segT_go (pc1_b1 w os) (segT_go (pc1_b2 w os) (segT_go (pc1_b3 w os) (segT_go (pc1_b4 w os) (pc1_e w os))))))
  rw [show n + (2331 + (2368 + (2368 + (2368 + 29)))) + k = 9552 by omega] at r
  exact r
theorem pc1_sff (w : World) : pc1s 88 ((w.withFollow "special-get-raises" false).withFollow "comprehension-iter-twice" false) := by intro os; kernel_rfl
theorem pc1_sft (w : World) : pc1s 88 ((w.withFollow "special-get-raises" true).withFollow "comprehension-iter-twice" false) := by intro os; kernel_rfl
theorem pc1_stf (w : World) : pc1s 78 ((w.withFollow "special-get-raises" false).withFollow "comprehension-iter-twice" true) := by intro os; kernel_rfl
theorem pc1_stt (w : World) : pc1s 78 ((w.withFollow "special-get-raises" true).withFollow "comprehension-iter-twice" true) := by intro os; kernel_rfl
theorem pc1_ff (w : World) : pc1 ((w.withFollow "special-get-raises" false).withFollow "comprehension-iter-twice" false) := pc1_of 0 (pc1_sff w) rfl
theorem pc1_ft (w : World) : pc1 ((w.withFollow "special-get-raises" true).withFollow "comprehension-iter-twice" false) := pc1_of 0 (pc1_sft w) rfl
theorem pc1_tf (w : World) : pc1 ((w.withFollow "special-get-raises" false).withFollow "comprehension-iter-twice" true) := pc1_of 10 (pc1_stf w) rfl
theorem pc1_tt (w : World) : pc1 ((w.withFollow "special-get-raises" true).withFollow "comprehension-iter-twice" true) := pc1_of 10 (pc1_stt w) rfl
theorem pc1_f_all (w : World) : pc1 (w.withFollow "comprehension-iter-twice" false) := byRow2 "special-get-raises" (P := fun w => pc1 (w.withFollow "comprehension-iter-twice" false)) pc1_ff pc1_ft w
theorem pc1_t_all (w : World) : pc1 (w.withFollow "comprehension-iter-twice" true) := byRow2 "special-get-raises" (P := fun w => pc1 (w.withFollow "comprehension-iter-twice" true)) pc1_tf pc1_tt w
theorem pc1__all (w : World) : pc1 w := byRow2 "comprehension-iter-twice" (P := fun w => pc1 w) pc1_f_all pc1_t_all w
theorem pc1_ok (w : World) : pc1 w := pc1__all w
noncomputable def pc2 (w : World) : Prop := ∀ os, segRunT treeTable pw w 11 ann0 1 3185 (T_7 w os) (piecesOf (stm 8 8) envM cE p_7 B0) = some (.next, T_15 w os, cE, p_15)
theorem pc2_f (w : World) : pc2 (w.withFollow "special-get-raises" false) := by intro os; kernel_rfl
theorem pc2_t (w : World) : pc2 (w.withFollow "special-get-raises" true) := by intro os; kernel_rfl
theorem pc2__all (w : World) : pc2 w := byRow2 "special-get-raises" (P := fun w => pc2 w) pc2_f pc2_t w
theorem pc2_ok (w : World) : pc2 w := pc2__all w
noncomputable def pc3 (w : World) : Prop := ∀ os, segRunT treeTable pw w 11 ann0 1 4327 (T_15 w os) (piecesOf (stm 16 2) envM cE p_15 B0) = some (.next, T_17 w os, cE, p_17)
theorem pc3_f (w : World) : pc3 (w.withFollow "special-get-raises" false) := by intro os; kernel_rfl
theorem pc3_t (w : World) : pc3 (w.withFollow "special-get-raises" true) := by intro os; kernel_rfl
theorem pc3__all (w : World) : pc3 w := byRow2 "special-get-raises" (P := fun w => pc3 w) pc3_f pc3_t w
theorem pc3_ok (w : World) : pc3 w := pc3__all w
noncomputable def pc4 (w : World) : Prop := ∀ os, segRunT treeTable pw w 11 ann0 1 436 (T_17 w os) (piecesOf (stm 18 13) envM cE p_17 B0) = some (.next, T_30 w os, cE, p_30)
theorem pc4_f (w : World) : pc4 (w.withFollow "special-get-raises" false) := by intro os; kernel_rfl
theorem pc4_t (w : World) : pc4 (w.withFollow "special-get-raises" true) := by intro os; kernel_rfl
theorem pc4__all (w : World) : pc4 w := byRow2 "special-get-raises" (P := fun w => pc4 w) pc4_f pc4_t w
theorem pc4_ok (w : World) : pc4 w := pc4__all w
noncomputable def pcFin (w : World) : Prop := ∀ os, topRun treeTable pw w 11 ann0 2 (T_30 w os).abs ⟨doneF .next, cE, p_30, B0⟩ = some (S1 w os)
theorem pcFin_a (w : World) : pcFin w := by intro os; kernel_rfl
theorem pcFin_ok (w : World) : pcFin w := pcFin_a w
noncomputable def steps0 : Nat := 12 + (1 + (685 + (9552 + (3185 + (4327 + (436 + (2)))))))
theorem run_ok (w : World) (os : OsState) : topRun treeTable pw w 11 ann0 steps0 (S0 w os) (topStub pw) = some (S1 w os) := by
  unfold steps0
  refine go_top (pcPre_ok w os) ?_
  refine piece_block (pcBlock_ok w os) ?_
  have e : behindTheImports pw = stm 0 7 ++ (stm 7 1 ++ (stm 8 8 ++ (stm 16 2 ++ (stm 18 13 ++ ([] : List Stmt))))) := by kernel_rfl
  rw [e]
  refine piece_app (segRun_of (pc0_ok w os)) ?_
  refine piece_app (segRun_of (pc1_ok w os)) ?_
  refine piece_app (segRun_of (pc2_ok w os)) ?_
  refine piece_app (segRun_of (pc3_ok w os)) ?_
  refine piece_app (segRun_of (pc4_ok w os)) ?_
  exact piece_nil (pcFin_ok w os)
noncomputable def qv : Program := view pw [1, 2, 3, 4, 5, 6, 7, 8, 9, 10, 11, 12, 13, 18, 19, 24, 25, 26, 27, 28, 29, 30]
noncomputable def lo : List Str := [S "_QUOPRI_MAP", S "_QUOPRI_HEADER_MAP", S "_QUOPRI_BODY_MAP", S "ascii_letters", S "_QUOPRI_BODY_ENCODE_MAP", S "body_encode"]
noncomputable def Kf (P : Params) : Frag := (nat_lit 2, o2_6 P) :: (nat_lit 3, o3_30 P) :: (nat_lit 6, boot_o_6 P) :: (nat_lit 15, o15_6 P) :: (nat_lit 22, o22_6 P) :: (nat_lit 23, o23_6 P) :: (nat_lit 24, o24_6 P) :: (nat_lit 25, o25_6 P) :: (nat_lit 28, o28_6 P) :: (nat_lit 35, o35_6 P) :: (nat_lit 36, o36_6 P) :: (nat_lit 37, o37_6 P) :: (nat_lit 40, o40_6 P) :: (nat_lit 47, o47_6 P) :: (nat_lit 48, o48_6 P) :: (nat_lit 49, o49_6 P) :: (nat_lit 52, o52_6 P) :: (nat_lit 54, o54_6 P) :: (nat_lit 55, o55_6 P) :: (nat_lit 57, o57_6 P) :: (nat_lit 58, o58_6 P) :: (nat_lit 61, o61_7 P) :: (nat_lit 66, o66_17 P) :: (nat_lit 68, o68_17 P) :: (nat_lit 75, o75_30 P) :: (nat_lit 77, o77_30 P) :: (nat_lit 78, o78_30 P) :: (nat_lit 80, o80_30 P) :: (nat_lit 81, o81_30 P) :: (nat_lit 83, o83_30 P) :: (nat_lit 87, o87_30 P) :: (nat_lit 88, o88_30 P) :: (nat_lit 90, o90_30 P) :: (nat_lit 91, o91_30 P) :: (nat_lit 93, o93_30 P) :: (nat_lit 94, o94_30 P) :: (nat_lit 95, o95_30 P) :: (nat_lit 97, o97_30 P) :: (nat_lit 98, o98_30 P) :: (nat_lit 100, o100_30 P) :: (nat_lit 101, o101_30 P) :: (nat_lit 102, o102_30 P) :: (nat_lit 104, o104_30 P) :: (nat_lit 105, o105_30 P) :: (nat_lit 107, o107_30 P) :: (nat_lit 108, o108_30 P) :: (nat_lit 109, o109_30 P) :: (nat_lit 112, o112_30 P) :: (nat_lit 113, o113_30 P) :: (nat_lit 114, o114_30 P) :: (nat_lit 117, o117_30 P) :: (nat_lit 118, o118_30 P) :: (nat_lit 119, o119_30 P) :: (nat_lit 121, o121_30 P) :: (nat_lit 122, o122_30 P) :: (nat_lit 124, o124_30 P) :: (nat_lit 125, o125_30 P) :: (nat_lit 126, o126_30 P) :: (nat_lit 128, o128_30 P) :: (nat_lit 129, o129_30 P) :: (nat_lit 131, o131_30 P) :: (nat_lit 132, o132_30 P) :: (nat_lit 133, o133_30 P) :: (nat_lit 136, o136_30 P) :: (nat_lit 137, o137_30 P) :: []
noncomputable def Ka : List Addr := nat_lit 2 :: nat_lit 3 :: nat_lit 6 :: nat_lit 15 :: nat_lit 22 :: nat_lit 23 :: nat_lit 24 :: nat_lit 25 :: nat_lit 28 :: nat_lit 35 :: nat_lit 36 :: nat_lit 37 :: nat_lit 40 :: nat_lit 47 :: nat_lit 48 :: nat_lit 49 :: nat_lit 52 :: nat_lit 54 :: nat_lit 55 :: nat_lit 57 :: nat_lit 58 :: nat_lit 61 :: nat_lit 66 :: nat_lit 68 :: nat_lit 75 :: nat_lit 77 :: nat_lit 78 :: nat_lit 80 :: nat_lit 81 :: nat_lit 83 :: nat_lit 87 :: nat_lit 88 :: nat_lit 90 :: nat_lit 91 :: nat_lit 93 :: nat_lit 94 :: nat_lit 95 :: nat_lit 97 :: nat_lit 98 :: nat_lit 100 :: nat_lit 101 :: nat_lit 102 :: nat_lit 104 :: nat_lit 105 :: nat_lit 107 :: nat_lit 108 :: nat_lit 109 :: nat_lit 112 :: nat_lit 113 :: nat_lit 114 :: nat_lit 117 :: nat_lit 118 :: nat_lit 119 :: nat_lit 121 :: nat_lit 122 :: nat_lit 124 :: nat_lit 125 :: nat_lit 126 :: nat_lit 128 :: nat_lit 129 :: nat_lit 131 :: nat_lit 132 :: nat_lit 133 :: nat_lit 136 :: nat_lit 137 :: []
theorem Ka_ok : ∀ P, Ka = (Kf P).map (·.1) := fun _ => by kernel_rfl
noncomputable abbrev rowL : RowW := PySem.Challenge.rw_rw0035_01.row.toRowW
noncomputable def Xt (s : Shared) : Bool := xlAt qv [] s && recOk (RowW.records rowL) s
noncomputable abbrev hk : Hook := kHook Kf Ka Ka_ok
noncomputable def pcOpen (w : World) : Prop := ∀ _ : Unit, (fencedOpening treeTable pw w 36486).map (fun s => (s.heap, s.gens, s.drawn, s.toks)) = some (H0 w.params, noGens, boot_drawn, boot_toks)
theorem pcOpen_a (w : World) : pcOpen w := by intro _; kernel_rfl
theorem pcOpen_ok (w : World) : pcOpen w := pcOpen_a w
noncomputable def pcSize (w : World) : Prop := ∀ _ : Unit, ((H0 w.params).isNs mainGlobals && noGens.size == 0, (H0 w.params).objs.size, (H0 w.params).nsMap mainGlobals "__annotations__") = (true, 11, ann0)
theorem pcSize_a (w : World) : pcSize w := by intro _; kernel_rfl
theorem pcSize_ok (w : World) : pcSize w := pcSize_a w
noncomputable def lkA (w : World) : Prop := ∀ _ : Unit, (fun os => staticsOk (importedModules pw.main.body) (H0 w.params) (H1 w.params) && namesBound pw (H1 w.params) && gensDone (S1 w os) && laidKept (H0 w.params) (H1 w.params)) = fun _ => true
theorem lkA_a (w : World) : lkA w := by intro _; kernel_rfl
theorem lkA_ok (w : World) : lkA w := lkA_a w
noncomputable def lkB (w : World) : Prop := ∀ _ : Unit, (fun os => openSeen qv lo (importedModules pw.main.body) Xt true (S1 w os)) = fun _ => openGood qv lo
theorem lkB_a (w : World) : lkB w := by intro _; kernel_rfl
theorem lkB_ok (w : World) : lkB w := lkB_a w
noncomputable def lkC (w : World) : Prop := ∀ _ : Unit, (fun os => hk.obs (S1 w os)) = fun _ => hk.val w
theorem lkC_a (w : World) : lkC w := by intro _; kernel_rfl
theorem lkC_ok (w : World) : lkC w := lkC_a w
theorem left_ok : LeftO PySem.Challenge.rw_rw0035_01.row.prog qv lo Xt hk.obs hk.val 36486 :=
  LeftO.of_pieces (H₀ := H0) (H₁ := H1) (gs₀ := noGens) (gs₁ := noGens) (d₀ := boot_drawn) (d₁ := {}) (k₀ := boot_toks) (k₁ := 1886) (m₀ := 11) (ann := ann0) (M := steps0)
    (fun w => pcOpen_ok w ()) (fun w => pcSize_ok w ()) run_ok (by decide +kernel) fun w => funext fun os => by
      have a := congrFun (lkA_ok w ()) os
      have b := congrFun (lkB_ok w ()) os
      have c := congrFun (lkC_ok w ()) os
      exact Prod.ext a (Prod.ext b c)
end
open PySem.Spec
section
open Sem (wp)
noncomputable def Called (Γ : PySem.Ctx) : Prop := (Γ.below.any fun x => x.1.isCaller) = true
theorem Called.enter {Γ : PySem.Ctx} (h : Called Γ) (c : Code) (hd : Option Value) (p : Pos) : Called (Γ.enter c hd p) := by
  show (((Γ.code, p) :: Γ.below).any fun x => x.1.isCaller) = true
  rw [List.any_cons, show (Γ.below.any fun x => x.1.isCaller) = true from h, Bool.or_true]
theorem Called.goto {Γ : PySem.Ctx} (h : Called Γ) (c : Code) : Called (Γ.goto c) := h
noncomputable def wpP {α : Type} (M : Model) (A : Around) (t : Sem α) (Q : α → Shared → Prop) (E : Value → Shared → Prop) (s : Shared) : Prop :=
  ∀ Γ p, Γ.In A → Called Γ → wp M Γ t (fun a _ s' => Q a s') (fun e _ s' => E e s') p s
noncomputable def codeP (M : Model) (A : Around) (c : Code) (R : Result → Shared → Prop) (s : Shared) : Prop :=
  ∀ Γ p, Γ.code = c → Γ.Below A → Called Γ → wpCode M Γ R p s
section
variable {α β : Type} {M : Model} {A : Around} {E : Value → Shared → Prop} {s : Shared} {env : Env}
theorem wpP_of {t : Sem α} {Q : α → Shared → Prop} (h : wpAny M A t Q E s) : wpP M A t Q E s := fun Γ p hΓ _ => h Γ p hΓ
theorem codeP_of {c : Code} {R : Result → Shared → Prop} (h : codeAny M A c R s) : codeP M A c R s := fun Γ p hc hΓ _ => h Γ p hc hΓ
theorem wpP_pure {a : α} {Q : α → Shared → Prop} (h : Q a s) : wpP M A (pure a) Q E s := fun _ _ _ _ => h
theorem wpP_mono {t : Sem α} {Q Q' : α → Shared → Prop} {E' : Value → Shared → Prop} (h : wpP M A t Q E s)
    (hQ : ∀ a s, Q a s → Q' a s) (hE : ∀ e s, E e s → E' e s) : wpP M A t Q' E' s :=
  fun Γ p hΓ hP => Sem.wp_mono M Γ t (fun a _ s => hQ a s) (fun e _ s => hE e s) p s (h Γ p hΓ hP)
theorem wpP_bind {m : Sem α} {f : α → Sem β} {Q : β → Shared → Prop} (h : wpP M A m (fun a s' => wpP M A (f a) Q E s') E s) :
    wpP M A (m >>= f) Q E s := fun Γ p hΓ hP => by
  rw [Sem.wp_bind']
  exact Sem.wp_mono M Γ m (fun a p' s' h' => h' Γ p' hΓ hP) (fun _ _ _ h' => h') p s (h Γ p hΓ hP)
theorem wpP_pre {m : Sem α} {f : α → Sem β} {Q : β → Shared → Prop} (h : wpAny M A m (fun a s' => wpP M A (f a) Q E s') E s) :
    wpP M A (m >>= f) Q E s := wpP_bind (wpP_of h)
theorem wpP_onRaise {m : Sem α} {k : Value → Sem Unit} {Q : α → Shared → Prop}
    (h : wpP M A m Q (fun e s' => wpAny M A (k e) (fun _ s'' => E e s'') E s') s) : wpP M A (m.onRaise k) Q E s := fun Γ p hΓ hP => by
  rw [Sem.wp_onRaise]
  exact Sem.wp_mono M Γ m (fun _ _ _ h' => h') (fun e p' s' h' => h' Γ p' hΓ) p s (h Γ p hΓ hP)
theorem wpP_attempt {m : Sem α} {Q : Except Value α → Shared → Prop} (h : wpP M A m (fun a => Q (.ok a)) (fun e => Q (.error e)) s) :
    wpP M A m.attempt Q E s := fun Γ p hΓ hP => by rw [Sem.wp_attempt]; exact h Γ p hΓ hP
theorem wpP_holding {vs : List Value} {m : Sem α} {Q : α → Shared → Prop} (h : wpP M A m Q E s) : wpP M A (holding vs m) Q E s :=
  fun Γ p hΓ hP => by rw [Sem.wp_holding]; exact h Γ p hΓ hP
theorem wpP_keep {vs : List Value} {m : Sem α} {Q : α → Shared → Prop} (h : wpP M A m Q E s) : wpP M A (m.keep vs) Q E s :=
  fun Γ p hΓ hP => by rw [Sem.wp_keep]; exact h Γ p hΓ hP
theorem wpP_stack {Q : List (Code × Pos) → Shared → Prop} (h : ∀ st : List (Code × Pos), (st.any fun x => x.1.isCaller) = true → Q st s) : wpP M A stack Q E s := fun Γ p _ hP => by
  show Q ((Γ.code, p) :: Γ.below) s
  exact h _ (by rw [List.any_cons, show (Γ.below.any fun x => x.1.isCaller) = true from hP, Bool.or_true])
theorem wpP_run {c : Code} {h : Option Value} {Q : Flow → Shared → Prop}
    (hc : codeP M (A.mark h) c (fun r s' => match r with | .ok f => Q f s' | .error e => E e s') s) (hnb : h ≠ some byPass) :
    wpP M A (run c h) Q E s :=
  fun Γ p hΓ hP => by rw [Sem.wp_run]; exact hc _ p rfl (hΓ.enter c h p hnb) (hP.enter c h p)
theorem wpP_runValue {c : Code} {Q : Value → Shared → Prop}
    (hc : codeP M A c (fun r s' => match r with | .ok (.ret v) => Q v s' | .ok _ => False | .error e => E e s') s) :
    wpP M A (runValue c) Q E s := fun Γ p hΓ hP => by rw [Sem.wp_runValue]; exact hc _ p rfl (hΓ.enter c none p (by intro x; cases x)) (hP.enter c none p)
theorem wpP_call {f : Value} {pos : List Value} {kw : List (Str × Value)} {Q : Value → Shared → Prop}
    (hc : codeP M A (.call f ⟨pos, kw⟩) (fun r s' => match r with | .ok (.ret v) => Q v s' | .ok _ => False | .error e => E e s') s) :
    wpP M A (call f pos kw) Q E s := wpP_runValue hc
theorem codeP_of_tree {c : Code} {R : Result → Shared → Prop}
    (h : wpP M (A.under c) (M.den c) (fun fin s' => match fin with | .done f => R (.ok f) s' | .again c' => c'.quiet = true ∧ codeP M A c' R s')
      (fun e s' => R (.error e) s') s) : codeP M A c R s := fun Γ p hc hΓ hP => by
  rw [wpCode_iff_wp, hc]
  refine Sem.wp_mono M Γ _ (fun fin p' s' h' => ?_) (fun _ _ _ h' => h') p s (h Γ p (hc ▸ hΓ.in) hP)
  cases fin with
  | done f => exact h'
  | again c' => exact ⟨h'.1, h'.2 (Γ.goto c') p' rfl (hΓ.goto c') hP⟩
theorem codeP_loop {c : Code} {R : Result → Shared → Prop} (hq : c.quiet = true) (I : Nat → Shared → Prop)
    (turn : ∀ n s, I n s → wpP M (A.under c) (M.den c)
      (fun fin s' => match fin with | .done f => R (.ok f) s' | .again c' => (c' = c ∧ ∃ m, m < n ∧ I m s') ∨ (c'.quiet = true ∧ codeP M A c' R s')) (fun e s' => R (.error e) s') s)
    (n : Nat) (h : I n s) : codeP M A c R s := by
  induction n using Nat.strongRecOn generalizing s with
  | ind n ih =>
    refine codeP_of_tree (wpP_mono (turn n s h) (fun fin s' hf => ?_) fun _ _ h' => h')
    cases fin with
    | done f => exact hf
    | again c' => rcases hf with ⟨rfl, m, hm, hI⟩ | hf
                  · exact ⟨hq, ih m hm hI⟩
                  · exact hf
theorem wpP_execs_nil {Q : Flow → Shared → Prop} (h : Q .next s) : wpP M A (execs [] env) Q E s := fun _ _ _ _ => h
theorem wpP_execs_cons {st : Stmt} {rest : List Stmt} {Q : Flow → Shared → Prop}
    (h : wpP M A (exec st env) (fun f s' => match f with | .next => wpP M A (execs rest env) Q E s' | f => Q f s') E s) :
    wpP M A (execs (st :: rest) env) Q E s := fun Γ p hΓ hP => by
  rw [execs_cons, Sem.wp_bind']
  refine Sem.wp_mono M Γ _ (fun f p' s' h' => ?_) (fun _ _ _ h' => h') _ _ (h Γ p hΓ hP)
  cases f <;> first | exact h' Γ p' hΓ hP | exact h'
theorem wpP_Return_some {e : Expr} {pos : Pos} {Q : Flow → Shared → Prop} (h : wpP M A (eval e env) (fun v => Q (.ret v)) E s) :
    wpP M A (exec (.Return (some e) pos) env) Q E s := fun Γ p hΓ hP => by
  simp only [exec_Return_some, Sem.wp_bind', Sem.wp_cmd_standAt, Sem.wp_pure']; exact h Γ _ hΓ hP
theorem wpP_Assign_Name {x : Str} {pos' pos : Pos} {value : Expr} {Q : Flow → Shared → Prop}
    (h : wpP M A (eval value env) (fun v s₁ => wpAny M A (storeName env x v) (fun _ => Q .next) E s₁) E s)
    (hs : swapsWith value (some (.Name x pos')) pos.line env = pure false) :
    wpP M A (exec (.Assign [.Name x pos'] value pos) env) Q E s := fun Γ p hΓ hP => by
  simp only [exec_Assign_Name env x pos' value pos hs, Sem.wp_bind', Sem.wp_cmd_standAt, Sem.wp_bindName, Sem.wp_pure']
  exact Sem.wp_mono M Γ _ (fun v _ s₁ h₁ => h₁ Γ _ hΓ) (fun _ _ _ h' => h') _ _ (h Γ _ hΓ hP)
theorem wpP_If {test : Expr} {body orelse : List Stmt} {pos : Pos} {Q : Flow → Shared → Prop}
    (h : wpP M A (isTrue test env (eval test env)) (fun b s₂ => if b then wpP M A (execs body env) Q E s₂ else wpP M A (execs orelse env) Q E s₂) E s) :
    wpP M A (exec (.If test body orelse pos) env) Q E s := fun Γ p hΓ hP => by
  simp only [exec_If, Sem.wp_bind', Sem.wp_cmd_standAt]
  refine Sem.wp_mono M Γ _ (fun b p₂ s₂ h₂ => ?_) (fun _ _ _ h' => h') _ _ (h Γ _ hΓ hP)
  cases b with
  | false => exact (show wpP M A (execs orelse env) Q E s₂ from h₂) Γ p₂ hΓ hP
  | true => exact (show wpP M A (execs body env) Q E s₂ from h₂) Γ p₂ hΓ hP
theorem wpP_isTrue_Compare1 {l r : Expr} {op : CmpOp} {pos : Pos} {whole : Sem Value} {Q : Bool → Shared → Prop}
    (h : wpP M A (eval l env) (fun a s₁ => wpAny M A (eval r env) (fun b s₂ => wpAny M A (compareOp op a b)
      (fun c s₃ => wpAny M A (truthy c) Q E s₃) E s₂) E s₁) E s)
    (hm : behindInMarks op r = false) : wpP M A (isTrue (.Compare l [op] [r] pos) env whole) Q E s := fun Γ p hΓ hP => by
  simp only [isTrue_Compare1, markedBehindIn_of_false hm, Sem.wp_bind', Sem.wp_holding, Sem.wp_cmd_standAt, Sem.wp_operate]
  exact Sem.wp_mono M Γ _ (fun a p₁ s₁ h₁ => Sem.wp_mono M Γ _ (fun b _ s₂ h₂ => Sem.wp_mono M Γ _ (fun c p₃ s₃ h₃ => h₃ Γ p₃ hΓ)
    (fun _ _ _ h' => h') _ _ (h₂ Γ _ hΓ)) (fun _ _ _ h' => h') _ _ (h₁ Γ p₁ hΓ)) (fun _ _ _ h' => h') _ _ (h Γ p hΓ hP)
theorem wpP_runOwn {c : Code} {h : Option Value} {Q : Flow → Shared → Prop}
    (hc : codeP M (A.mark h) c (fun r s' => match r with | .ok f => Q f s' | .error e => cameBackBy M A env E e s') s) (hnb : h ≠ some byPass) :
    wpP M A (runOwn c env h) Q E s := by
  unfold runOwn
  exact wpP_onRaise (wpP_run hc hnb)
theorem wpP_For {target iter : Expr} {body orelse : List Stmt} {pos : Pos} {Q : Flow → Shared → Prop}
    (h : wpAny M A (eval iter env) (fun x s₁ => wpAny M A (pyIter x) (fun it s₂ =>
      codeP M A (.forLoop target it body orelse env) (fun r s' => match r with | .ok f => Q f s' | .error e => cameBackBy M A env E e s') s₂) E s₁) E s)
    (hs : ∀ x, foldedSetIterable iter env x = pure x) :
    wpP M A (exec (.For target iter body orelse pos) env) Q E s := by
  rw [exec_For]
  exact wpP_pre (wpAny_standAt (wpP_pre (wpAny_mono h (fun x s₁ h₁ => wpP_pre (wpAny_of_eq (hs x) (wpP_pre (wpAny_standAt (wpP_pre (wpAny_holding
    (wpAny_mono h₁ (fun it s₂ h₂ => wpP_runOwn h₂ (by intro x; cases x)) fun _ _ h' => h'))))))) fun _ _ h' => h')))
theorem wpP_tryStmt_except {body orelse : Sem Flow} {h₀ : ExceptHandler} {hs : List ExceptHandler} {Q : Flow → Shared → Prop}
    (h : wpP M A body (fun f s₁ => match f with | .next => wpAny M A orelse Q E s₁ | f => Q f s₁)
      (fun e s₁ => wpAny M A (noteFrame e env) (fun _ s₂ => wpAny M A (setFlight e none) (fun _ s₃ => wpAny M A (handleBy e env (h₀ :: hs)) Q E s₃) E s₂) E s₁) s) :
    wpP M A (tryStmt false body (h₀ :: hs) orelse [] env) Q E s := by
  unfold tryStmt
  simp only [List.isEmpty_nil, if_true, List.isEmpty_cons, Bool.false_and, Bool.false_eq_true, if_false]
  refine wpP_bind (wpP_attempt (wpP_mono h (fun f s₁ h₁ => wpP_of ?_) fun e s₁ h₁ => wpP_of ?_))
  · cases f <;> first | exact h₁ | exact wpAny_pure h₁
  · exact wpAny_bind (wpAny_mono h₁ (fun _ _ h₂ => wpAny_bind h₂) fun _ _ x => x)
theorem wpP_Try {body orelse : List Stmt} {h₀ : ExceptHandler} {hs : List ExceptHandler} {pos : Pos} {Q : Flow → Shared → Prop}
    (h : wpP M A (execs body env) (fun f s₁ => match f with | .next => wpAny M A (execs orelse env) Q E s₁ | f => Q f s₁)
      (fun e s₁ => wpAny M A (noteFrame e env) (fun _ s₂ => wpAny M A (setFlight e none) (fun _ s₃ => wpAny M A (handleBy e env (h₀ :: hs)) Q E s₃) E s₂) E s₁) s) :
    wpP M A (exec (.Try body (h₀ :: hs) orelse [] pos) env) Q E s := by
  rw [arm_exec_Try]
  exact wpP_pre (wpAny_standAt (wpP_tryStmt_except h))
theorem wpP_Call_Name {id : Str} {p pos : Pos} {args : List Expr} {keywords : List Keyword} {Q : Value → Shared → Prop}
    (h : wpAny M A (eval (.Name id p) env) (fun f s₁ => wpP M A (callWith pos f [] (backTo pos (starEach args env)) (backToKw pos (keywordEach keywords env))) Q E s₁) E s) :
    wpP M A (eval (.Call (.Name id p) args keywords pos) env) Q E s := by
  rw [arm_eval_Call_Name']
  exact wpP_pre h
theorem wpP_tail {t : Sem Value} {Q : Value → Shared → Prop} (ht : wpP M A t Q E s) : wpP M A (t >>= fun r => holding [r] point >>= fun _ => pure r) Q E s :=
  wpP_bind (wpP_mono ht (fun r s₂ hr => wpP_pre (wpAny_holding (wpAny_point (wpP_pure hr)))) fun _ _ x => x)
noncomputable def FnThere (a : Addr) (h : Heap) : Prop := ∃ o fd, h.get? a = some o ∧ o.data = .func fd
theorem callWithP_fn {pos : Pos} {a : Addr} {first : List Value} {args : List (Bool × Sem Value)} {Q : Value → Shared → Prop}
    (h : wpAny M A (evalArgs (.ref a) true args []) (fun x s₁ => FnThere a s₁.heap ∧ wpP M A (call (.ref a) (first ++ x.pos) x.kw) Q E s₁) E s) :
    wpP M A (callWith pos (.ref a) first args []) Q E s := by
  unfold callWith
  refine wpP_pre (wpAny_holding (wpAny_mono h (fun x s₁ h₁ => wpP_pre (wpAny_standAt ?_)) fun _ _ x => x))
  obtain ⟨⟨o, fd, ho, hfd⟩, h₁⟩ := h₁
  have tail : ∀ {t : Sem Value}, wpP M A t Q E s₁ → wpP M A (t >>= fun r => holding [r] point >>= fun _ => pure r) Q E s₁ := wpP_tail
  cases hs : args.any (·.1) <;> simp only [List.any_nil, Bool.or_false] <;>
    refine wpP_pre (m := keeperOf (.ref a)) ?_ <;> unfold keeperOf <;>
    refine wpAny_bind (wpAny_load ho ?_) <;> rw [hfd] <;> refine wpAny_pure ?_
  · dsimp only
    split
    · exact tail h₁
    · exact tail (wpP_keep h₁)
  · dsimp only
    exact tail (t := callMarked starredCall (.ref a) (first ++ x.pos) x.kw) (wpP_keep h₁)
theorem argsP {f : Value} {pos : Pos} {e : Expr} {rest : List Expr} {Q : Args → Shared → Prop} (h : wpAny M A (spliced (backTo pos (starEach (e :: rest) env))) (fun vs s₁ => Q ⟨vs, []⟩ s₁) E s)
    (he : starEach (e :: rest) env = (false, eval e env) :: starEach rest env) : wpAny M A (evalArgs f true (backTo pos (starEach (e :: rest) env)) []) Q E s := by
  rw [he] at h ⊢
  exact evalArgs_plain h
theorem callWithP_type {pos : Pos} {T : String} {first : List Value} {args : List (Bool × Sem Value)} {Q : Value → Shared → Prop}
    (hplain : args.any (·.1) = false)
    (h : wpAny M A (evalArgs (.type T) true args []) (fun a s₁ => wpP M A (call (.type T) (first ++ a.pos) a.kw) Q E s₁) E s) :
    wpP M A (callWith pos (.type T) first args []) Q E s := by
  unfold callWith
  refine wpP_pre (wpAny_holding (wpAny_mono h (fun a s₁ h₁ => ?_) fun _ _ x => x))
  refine wpP_pre (wpAny_standAt ?_)
  simp only [hplain, List.any_nil, Bool.or_false]
  refine wpP_pre (m := keeperOf (.type T)) ?_
  first
    | refine wpAny_pure ?_
    | unfold keeperOf; refine wpAny_pure ?_
  exact wpP_tail h₁
end
section
variable {prog : Program} {w : World} {A : Around} {E : Value → Shared → Prop} {R : Result → Shared → Prop} {s : Shared}
theorem codeP_func {body : List Stmt} {env : Env}
    (h : wpP (model prog w) (A.deeper env) (execs body env) (fun f s' => R (.ok (.ret (match f with | .ret v => v | _ => .none))) s')
      (fun e s' => wpAny (model prog w) (A.deeper env) (leaving env e) (fun _ s'' => R (.error e) s'') (fun e' s'' => R (.error e') s'') s') s) :
    codeP (model prog w) A (.func body env) R s := by
  refine codeP_of_tree ?_
  show wpP _ (A.deeper env) (do point; match ← (execs body env).onRaise (leaving env) with | .ret v => ret v | _ => ret .none) _ _ s
  refine wpP_pre (wpAny_point (wpP_bind (wpP_onRaise (wpP_mono h (fun f s' h' => ?_) fun _ _ h' => h'))))
  cases f <;> exact wpP_pure h'
theorem codeP_call_function {a : Addr} {args : Args} {o : Obj} {fd : FuncData} {body : List Stmt} (hroom : A.depth < recursionLimit)
    (ho : s.heap.get? a = some o)
    (hd' : o.data = .func fd) (hco : fd.scope.isCoroutine = false) (hgen : fd.scope.isGenerator = false) (hbody : fd.body = .stmts body) (hcd : s.heap.CodeRec fd.code fd.qualname)
    (h : wpAny (model prog w) A.in1 (bindArgs fd args) (fun binds s₁ =>
      wpAny (model prog w) A.in1 (newFunctionEnv fd.scope fd.globals fd.closure binds (fd.qualname ++ ".<locals>.") (some a) fd.code none fd.builtins)
        (fun env s₂ => s₂.heap.NoLimit ∧ codeP (model prog w) A (.func body env) R s₂) (fun e s' => R (.error e) s') s₁) (fun e s' => R (.error e) s') s) :
    codeP (model prog w) A (.call (.ref a) args) R s := by
  refine codeP_of_tree (wpP_of ?_)
  show wpAny _ A.in1 (callAny (.ref a) args) _ _ s
  simp only [callAny]
  refine wpAny_bind (wpAny_load ho ?_)
  obtain ⟨c, oc, vs, tq, hc, hoc, hdc, hq⟩ := hcd
  simp only [hd', callFunction, hco, hgen, hbody, hc]
  rw [hc] at h
  refine wpAny_bind (m := field (.ref c) 1) (wpAny_field hoc hdc hq (wpAny_bind (wpAny_pure ?_)))
  exact wpAny_bind (wpAny_mono h (fun binds s₁ h₁ => wpAny_bind (wpAny_mono h₁ (fun env s₂ h₂ => wpAny_bind (wpAny_enterFrame h₂.1 hroom
    (wpAny_pure (And.intro rfl h₂.2)))) fun _ _ h' => h')) fun _ _ h' => h')
theorem codeP_call_def {a : Addr} {o : Obj} {fd : FuncData} {body : List Stmt} {args : Args} {binds : List (Str × Value)}
    (hroom : A.depth < recursionLimit) (ho : s.heap.get? a = some o) (hdata : o.data = .func fd) (hlim : s.heap.NoLimit) (hcd : s.heap.CodeRec fd.code fd.qualname)
    (hbody : fd.body = .stmts body) (hbind : BindsTo s fd args binds)
    (hcell : ∀ x ∈ fd.scope.names, x.2 ≠ .cell) (hloc : ∀ x ∈ binds, fd.scope.names.lookup x.1 = some .local)
    (h : ∀ h₀, h₀.Ns s.heap.objs.size (fun x => binds.reverse.lookup x) → (∀ b o, s.heap.get? b = some o → h₀.get? b = some o) →
      wpP (model prog w) (A.deeper (callEnv fd s.heap.objs.size a)) (execs body (callEnv fd s.heap.objs.size a)) (fun f s' => R (.ok (.ret (match f with | .ret v => v | _ => .none))) s')
        (fun e s' => wpAny (model prog w) (A.deeper (callEnv fd s.heap.objs.size a)) (leaving (callEnv fd s.heap.objs.size a) e) (fun _ s'' => R (.error e) s'') (fun e' s'' => R (.error e') s'') s')
        { s with heap := h₀, toks := s.toks + binds.length })
    (hco : fd.scope.isCoroutine = false) (hgen : fd.scope.isGenerator = false) (hk : fd.scope.kind = .function) :
    codeP (model prog w) A (.call (.ref a) args) R s := by
  refine codeP_call_function hroom ho hdata hco hgen hbody hcd (hbind _ _ _ _ ?_)
  refine wpAny_newFunctionEnv hcell hloc (fun h₀ hns₀ hsb₀ => ⟨hlim.fresh _ hsb₀, codeP_func (h h₀ hns₀ fun b o e => ?_)⟩) hk
  exact hsb₀.extBut b o (Nat.ne_of_lt (Heap.lt_size e)) (Heap.get?_push_of_some _ e)
theorem wpP_noted {α : Type} {M : Model} {env : Env} {m : Sem α} {Q : α → Shared → Prop} (h : wpP M A m Q (notedBy M A env E) s) : wpP M A (m.onRaise fun x => do noteFrame x env; theTreesLotGoes x) Q E s :=
  wpP_onRaise (wpP_mono h (fun _ _ q => q) fun _ _ hx => wpAny_bind (wpAny_mono hx (fun _ _ e => wpAny_theTreesLotGoes e) fun _ _ e => e))
theorem codeP_forLoop {target : Expr} {it : Value} {body orelse : List Stmt} {env : Env} (I : Nat → Shared → Prop)
    (turn : ∀ n s, I n s → wpAny (model prog w) A (pyNext it) (fun r s₁ => match r with
      | none => wpAny (model prog w) A (execs orelse env) (fun f s₃ => R (.ok f) s₃) (notedBy (model prog w) A env fun e s' => R (.error e) s') s₁
      | some v => wpAny (model prog w) A (assign target env v) (fun _ s₂ => wpP (model prog w) A (execs body env) (fun f s₃ => match f with
          | .next | .cont => ∃ m, m < n ∧ I m s₃
          | .brk => R (.ok .next) s₃
          | .ret v => R (.ok (.ret v)) s₃) (notedBy (model prog w) A env fun e s' => R (.error e) s') s₂) (notedBy (model prog w) A env fun e s' => R (.error e) s') s₁) (notedBy (model prog w) A env fun e s' => R (.error e) s') s)
    (n : Nat) (h : I n s) (ht : ∀ v, letOwnedTupleGo target it v = pure ()) : codeP (model prog w) A (.forLoop target it body orelse env) R s := by
  refine codeP_loop rfl I (fun n s hI => ?_) n h
  show wpP _ _ ((forTurn target it body orelse env).onRaise (fun x => do noteFrame x env; theTreesLotGoes x)) _ _ s
  refine wpP_noted ?_
  simp only [forTurn]
  refine wpP_pre (wpAny_standAt (wpP_pre (wpAny_onRaise (wpAny_mono (turn n s hI) (fun r s₁ h₁ => ?_) fun _ _ h' => wpAny_standAt h'))))
  cases r with
  | none => exact wpP_pure (.inr ⟨rfl, codeP_of (codeAny_block h₁)⟩)
  | some v =>
    refine wpP_pre (wpAny_of_eq (ht v) ?_)
    refine wpP_pre (wpAny_mono h₁ (fun _ s₂ h₂ => wpP_bind (wpP_mono h₂ (fun f s₃ h₃ => ?_) fun _ _ h' => h')) fun _ _ h' => h')
    cases f with
    | next => exact wpP_pure (.inl ⟨rfl, h₃⟩)
    | cont => exact wpP_pure (.inl ⟨rfl, h₃⟩)
    | brk => exact wpP_pure h₃
    | ret v => exact wpP_pure h₃
end
end
section
open NumText
local macro_rules | `(tactic| walk_at "d_obj") => do
  let i := Lean.mkIdent (Lean.mkPrivateNameCore `PySem.Builtin.Int.W0All `PySem.Builtin.intFromObject)
  `(tactic| delta $i:ident)
local macro_rules | `(tactic| walk_at "d_text") => do
  let i := Lean.mkIdent (Lean.mkPrivateNameCore `PySem.Builtin.Int.W0All `PySem.Builtin.intFromText)
  `(tactic| delta $i:ident)
theorem special_none {v : Value} {T : Value} {n : Str} (h : typeOf v = pure T) (h2 : typeLookup T n = pure none) : specialOf v n = pure none := by
  unfold specialOf
  simp only [h, h2, pure_bind]
theorem int_obj_eq (x : Str) (u : Tok) : ∃ k : Value → Sem Value, (int_private% "intFromObject") (.str x u) = (int_private% "intFromText") (.str x u) (numTextOf x) 10 >>= k := by
  have f6 : typeOf (.str x u) = pure (.type "str") := rfl
  have f3 := special_none f6 KIN.str_int
  have f4 := special_none f6 KIN.str_idx
  have f5 := special_none f6 KIN.str_trunc
  have f7 : callSpecial? (.str x u) "__int__" = pure none := by unfold callSpecial?; simp only [f3, pure_bind]
  have f8 : (int_private% "numeralText?") (.str x u) = pure (some (numTextOf x)) := rfl
  walk_at "d_obj"
  dsimp only
  simp only [f7, f4, f5, f8, pure_bind, Option.isSome_none, Bool.false_eq_true, if_false]
  first
    | exact ⟨_, rfl⟩
    | exact ⟨pure, (bind_pure _).symm⟩
    | skip
theorem int_new_eq (x : Str) (u : Tok) : ∃ k : Value → Sem PySem.Fin, Builtin.«int.__new__» ⟨[.type "int", .str x u], []⟩ = (int_private% "intFromText") (.str x u) (numTextOf x) 10 >>= k := by
  obtain ⟨k₀, h₀⟩ := int_obj_eq x u
  have f1 := F.conv_sub_int
  have f2 := F.madeHere_int
  unfold Builtin.«int.__new__»
  have f7 : isType (.type "int") = pure true := rfl
  simp only [f1, f2, f7, pure_bind, Bool.not_true, Bool.false_eq_true, if_false, List.forIn_nil]
  have c1 : (Value.type "int" == Value.type "int" && ([] : List (Str × Value)).isEmpty && decide ([Value.str x u].length > 2)) = false := by simp
  have c2 : ¬ ([Value.str x u].length + ([] : List (Str × Value)).length > 2) := by simp
  rw [if_neg (by rw [c1]; exact Bool.false_ne_true), if_neg c2]
  have e : ∀ (f : Value → Sem PySem.Fin), ((int_private% "intFromObject") (.str x u) >>= f) = (int_private% "intFromText") (.str x u) (numTextOf x) 10 >>= fun v => k₀ v >>= f := fun f => by rw [h₀, bind_assoc]
  exact ⟨_, e _⟩
theorem type_call_eq (x : Value) : ∃ k : Value → Sem PySem.Fin, Builtin.«type.__call__» ⟨[.type "int", x], []⟩ = holding [.builtin "int.__new__"] (call (.builtin "int.__new__") [.type "int", x] []) >>= k := by
  have ft := F.called_int
  obtain ⟨c, tl, hmro⟩ := ft.mro
  have hmade := ft.made
  have h1 := ft.notType
  have h2 := ft.canCreate
  have h3 := F.typeCall_int_1 x
  unfold Builtin.«type.__call__»
  simp only [h1, h2, h3, hmro, hmade, pure_bind, Bool.false_eq_true, if_false, List.isEmpty_cons]
  exact ⟨_, rfl⟩


theorem wpP_mark {M : Model} {A : Around} {E : Value → Shared → Prop} {s : Shared} {own : List String} {e : Value} {Q : Unit → Shared → Prop} (h : Q () s) : wpP M A (markTheRefusal own e) Q E s := by
  unfold markTheRefusal
  refine wpP_bind (wpP_stack fun st hst => ?_)
  have c : pythonCodeMadeTheCall own (st.map (·.1)) = false := by
    unfold pythonCodeMadeTheCall
    have e : ∀ (b c d : Bool), b = true → ((!b && c) && d) = false := fun b c d h => by rw [h]; rfl
    exact e _ _ _ (by rw [List.any_map]; exact hst)
  rw [c]
  exact wpP_pure h
theorem textP {prog : Program} {w : World} {A : Around} {E Q : Value → Shared → Prop} {s : Shared} {x : Str} {u : Tok} (hh : A.handled = none) (hl : (numSeenOf x).length ≤ 640) (hn : PySem.intText? x = none) (hsz : (reprText x).length ≤ sizeLine)
    (h : ∀ h' e args tk, Heap.MadeExc s.heap h' e "ValueError" args → E (.ref e) { s with heap := h', toks := tk }) : wpP (model prog w) A ((int_private% "intFromText") (.str x u) (numTextOf x) 10) Q E s := by
  have hb : (int_private% "bytesOf?") (.str x u) = pure none := rfl
  have tail : ∀ (k : Str → Str), (∀ y, (k y).length ≤ sizeLine) → wpP (model prog w) A (do
      rule "int.__new__.invalid-literal"
      let shown ← pyRepr (Value.str x u)
      let m ← mkStr (k shown)
      let refusal ← newExc (Value.type "ValueError") [m]
      markTheRefusal ["int.__new__"] refusal
      raiseNew refusal) Q E s := fun k hk => by
    refine wpP_pre (wpAny_rule (wpP_pre (wpAny_pyRepr_str (wpP_pre (wpAny_mkStr (wpP_pre (wpAny_newExc_plain plainExc_ValueError (fun h' e H => ?_))) (hk _))) hsz)))
    exact wpP_bind (wpP_mark (wpP_of (wpAny_raiseNew_none hh (h _ _ _ _ H))))
  have hk : ∀ (y : Str), (Str.ofString (toString "invalid literal for int() with base " ++ toString 10 ++ toString ": ") ++ ({ cps := y.cps.extract 0 200 } : Str)).length ≤ sizeLine := fun y => by
    rw [PySem.sizeLine_eq]
    show (Array.size (_ ++ y.cps.extract 0 200)) ≤ _
    rw [Array.size_append, Array.size_extract]
    have e : (Str.ofString (toString "invalid literal for int() with base " ++ toString 10 ++ toString ": ")).cps.size = 40 := by decide +kernel
    omega
  rcases read0 x hl with ⟨n, h1, _⟩ | ⟨_, h1⟩
  · rw [hn] at h1; cases h1
  walk_at "d_text"
  dsimp only
  rw [if_pos hl]
  simp only [pure_bind, hb, Option.isSome_none, Bool.false_and, Bool.false_eq_true, if_false]
  rcases h1 with h1 | ⟨i, h1, h2⟩
  · rw [h1]
    exact tail _ hk
  · rw [h1]
    dsimp only
    rw [if_neg h2]
    exact tail _ hk
theorem den_b {prog : Program} {w : World} (id : String) (args : Args) : (model prog w).den (.builtin id args) = (match entryFor table id with
    | some b => b args
    | none => unsupported ((withoutEnding? id "#data").getD id)) := rfl
theorem int_raises {prog : Program} {w : World} {A : Around} {E Q : Value → Shared → Prop} {s : Shared} {x : Str} {u : Tok} (hh : A.handled = none) (hl : (numSeenOf x).length ≤ 640) (hn : PySem.intText? x = none) (hsz : (reprText x).length ≤ sizeLine)
    (h : ∀ h' e args tk, Heap.MadeExc s.heap h' e "ValueError" args → E (.ref e) { s with heap := h', toks := tk }) : wpP (model prog w) A (call (.type "int") [.str x u]) Q E s := by
  obtain ⟨k, hk⟩ := type_call_eq (.str x u)
  obtain ⟨k2, hk2⟩ := int_new_eq x u
  refine wpP_call (codeP_of_tree ?_)
  show wpP _ _ (callAny (.type "int") _) _ _ _
  refine wpP_pure ⟨Code.quiet_builtin _ (by decide +kernel), codeP_of_tree ?_⟩
  rw [Around.under_plain (weight_type_call_type "int" [.str x u] []) rfl]
  rw [den_b]
  rw [F.entry_type_call]
  dsimp only
  rw [hk]
  refine wpP_bind (wpP_holding (wpP_mono (Q := fun _ _ => False) (E := E) (wpP_call (codeP_of_tree ?_)) (fun _ _ z => z.elim) fun _ _ z => z))
  show wpP _ _ (do checkBuiltinCall "int.__new__" ⟨[.type "int", .str x u], []⟩; again (.builtin "int.__new__" ⟨[.type "int", .str x u], []⟩)) _ _ _
  refine wpP_pre (wpAny_of_eq (F.newCall_int_1 _) (wpP_pure ⟨plainId_quiet F.called_int.plain _, codeP_of_tree ?_⟩))
  rw [Around.under_plainId F.called_int.plain]
  rw [den_b]
  rw [F.entry_int_new]
  dsimp only
  rw [hk2]
  exact wpP_bind (wpP_mono (Q := fun _ _ => False) (textP hh hl hn hsz h) (fun _ _ z => z.elim) fun _ _ z => z)
end
section
theorem look_c {prog : Program} {w : World} {A : Around} {E : Value → Shared → Prop} {s : Shared} {T : Addr} {items : Array Value} {c : Nat} {y : Str} {u : Tok} {Q : Builtin.Str.Mapped → Shared → Prop} (hl : s.heap.IsList T items)
    (hc : c < 256) (hx : items[c]? = some (.str y u)) (h : ∀ tk, Q (.text y) { s with toks := tk }) : wpAny (model prog w) A (Builtin.Str.tableLookup (.ref T) c) Q E s := by
  unfold Builtin.Str.tableLookup
  refine wpAny_bind (wpAny_attempt (wpAny_bind (wpAny_mkInt (wpAny_getItem_list hl (Int.natCast_nonneg _) (by omega) (by rw [Int.toNat_natCast]; exact hx) ?_))))
  have e1 : asInt? (.str y u) = pure none := rfl
  have e2 : asStr? (.str y u) = pure (some y) := rfl
  show wpAny _ _ (asInt? (.str y u) >>= _) _ _ _
  refine wpAny_bind (wpAny_of_eq e1 ?_)
  show wpAny _ _ (asStr? (.str y u) >>= _) _ _ _
  refine wpAny_bind (wpAny_of_eq e2 ?_)
  exact wpAny_pure (h _)
theorem fold_app : ∀ (ps : List Str) (acc : Array Nat), (ps.foldl (fun acc p => acc ++ p.cps) acc) = acc ++ (ps.flatMap fun p => p.cps.toList).toArray
  | [], acc => by simp
  | p :: ps, acc => by rw [List.foldl_cons, fold_app ps]; apply Array.ext'; simp
theorem one_sign {y : Str} (h : (y.length == 1) = true) : ∃ d, y.cps[0]? = some d ∧ y = ⟨#[d]⟩ := by
  obtain ⟨⟨l⟩⟩ := y
  have h' : l.length = 1 := of_decide_eq_true (by simpa [Str.length] using h)
  obtain ⟨d, rfl⟩ := List.length_eq_one_iff.mp h'
  exact ⟨d, rfl, rfl⟩
structure TrI (x : Str) (f : Nat → Str) (rest : List Nat) (pieces : List Str) (total : Nat) (known : List (Nat × Option Nat)) (pre : List Nat) : Prop where
  split : x.cps.toList = pre ++ rest
  total : total ≤ 3 * pre.length
  known : ∀ c a, known.lookup c = some a → ∃ d, a = some d ∧ f c = ⟨#[d]⟩
  out : (pieces.reverse.flatMap fun p => p.cps.toList) = pre.flatMap fun c => (f c).cps.toList
theorem TrI.next {x : Str} {f : Nat → Str} {c : Nat} {rest : List Nat} {pieces : List Str} {total n : Nat} {known known' : List (Nat × Option Nat)} {pre : List Nat} {y : Str} (I : TrI x f (c :: rest) pieces total known pre) (hy : y = f c) (hn : n ≤ 3)
    (hk : ∀ c a, known'.lookup c = some a → ∃ d, a = some d ∧ f c = ⟨#[d]⟩) : TrI x f rest (y :: pieces) (total + n) known' (pre ++ [c]) := by
  refine ⟨by rw [I.split]; simp, ?_, hk, ?_⟩
  · have := I.total
    simp only [List.length_append, List.length_cons, List.length_nil]
    omega
  · subst hy
    simp only [List.reverse_cons, List.flatMap_append, I.out, List.flatMap_cons, List.flatMap_nil, List.append_nil]
theorem trans_b {prog : Program} {w : World} {A : Around} {E : Value → Shared → Prop} {s : Shared} {T : Addr} {items : Array Value} {x : Str} {t : Tok} {f : Nat → Str} {Q : PySem.Fin → Shared → Prop} (hl : s.heap.IsList T items)
    (hx : ∀ c ∈ x.cps.toList, c < 256 ∧ (f c).length ≤ 3 ∧ ∃ u, items[c]? = some (.str (f c) u)) (hn : 1 ≤ x.length ∧ x.length ≤ 1000)
    (h : ∀ tk tk', Q (.done (.ret (.str ⟨((x.cps.toList.flatMap fun c => (f c).cps.toList).toArray)⟩ tk))) { s with toks := tk' }) : wpAny (model prog w) A (Builtin.«str.translate» ⟨[.str x t, .ref T], []⟩) Q E s := by
  unfold Builtin.«str.translate»
  have e1 : Builtin.Str.strOneArg "translate" ⟨[.str x t, .ref T], []⟩ = pure (.str x t, x, .ref T) := rfl
  have hlx : x.cps.toList.length = x.length := rfl
  have htl : ∀ n : Nat, n ≤ 3000 → ¬ (Builtin.Str.tooLong n = true) := fun n hn => by
    unfold Builtin.Str.tooLong
    have := PySem.sizeLine_eq
    simp
    omega
  simp only [e1, pure_bind]
  rw [if_neg (by simp; intro q; have := hn.1; rw [q] at this; exact absurd this (by decide))]
  refine wpAny_bind (wpAny_forIn_array' _ (fun rest b s' => b.2.2.2.2 = false ∧ ∃ pre tk, TrI x f rest b.1 b.2.1 b.2.2.2.1 pre ∧ s' = { s with toks := tk }) _ ?_ ?_ _ _ ⟨rfl, [], s.toks, ⟨rfl, Nat.zero_le _, (fun c a q => nomatch q), rfl⟩, rfl⟩)
  · rintro c rest ⟨pieces, total, fast, known, ad⟩ s' ⟨had, pre, tk, I, rfl⟩
    dsimp only at had I ⊢
    subst had
    have hlen : pre.length + (rest.length + 1) = x.length := by rw [← hlx, I.split]; simp
    have hmem : c ∈ x.cps.toList := by rw [I.split]; simp
    obtain ⟨hc, hf3, u, hit⟩ := hx c hmem
    have hlk : ∀ (Q' : Builtin.Str.Mapped → Shared → Prop) (tk0 : Nat), (∀ tk', Q' (.text (f c)) { s with toks := tk' }) → wpAny (model prog w) A (Builtin.Str.tableLookup (.ref T) c) Q' E { s with toks := tk0 } := fun Q' tk0 h' => look_c (s := { s with toks := tk0 }) hl hc hit h'
    have ht := I.total
    rw [if_neg (htl total (by omega))]
    cases fast with
    | false =>
      rw [if_neg Bool.false_ne_true]
      rw [if_neg Bool.false_ne_true]
      refine wpAny_bind (hlk _ _ fun tk' => ?_)
      exact wpAny_pure ⟨rfl, pre ++ [c], tk', I.next rfl hf3 I.known, rfl⟩
    | true =>
      rw [if_pos rfl]
      cases hkn : known.lookup c with
      | some a =>
        obtain ⟨d, rfl, hfd⟩ := I.known c a hkn
        dsimp only
        exact wpAny_pure ⟨rfl, pre ++ [c], tk, I.next hfd.symm (by decide) I.known, rfl⟩
      | none =>
        dsimp only
        refine wpAny_bind (hlk _ _ fun tk' => ?_)
        dsimp only
        by_cases hone : ((f c).length == 1 && (f c).cps.all fun x => decide (x < 128)) = true
        · rw [if_pos hone]
          obtain ⟨d, hd, hfd⟩ := one_sign (Bool.and_eq_true_iff.mp hone).1
          rw [hd]
          dsimp only
          refine wpAny_pure ⟨rfl, pre ++ [c], tk', I.next hfd.symm (by decide) (fun c' a' q => ?_), rfl⟩
          rw [List.lookup_cons] at q
          cases hcc : (c' == c) with
          | true =>
            rw [hcc] at q
            injection q with q
            exact ⟨d, q.symm, by rw [eq_of_beq hcc]; exact hfd⟩
          | false =>
            rw [hcc] at q
            exact I.known c' a' q
        · rw [if_neg hone]
          dsimp only
          refine wpAny_bind (wpAny_rule ?_)
          rw [if_neg Bool.false_ne_true]
          refine wpAny_bind (hlk _ _ fun tk'' => ?_)
          exact wpAny_pure ⟨rfl, pre ++ [c], tk'', I.next rfl hf3 I.known, rfl⟩
  · rintro ⟨pieces, total, fast, known, ad⟩ s' ⟨had, pre, tk, I, rfl⟩
    dsimp only at I ⊢
    have hpre : pre = x.cps.toList := by rw [I.split]; simp
    have ht := I.total
    rw [if_neg (htl total (by rw [hpre] at ht; omega))]
    have e2 : (⟨pieces.reverse.foldl (fun acc p => acc ++ p.cps) #[]⟩ : Str) = ⟨((x.cps.toList.flatMap fun c => (f c).cps.toList).toArray)⟩ := by
      rw [fold_app, I.out, hpre]; simp
    rw [e2]
    unfold retStr ret
    refine wpAny_bind (wpAny_mkStr (wpAny_pure (h _ _)) ?_)
    have hfl : ∀ l : List Nat, (∀ c ∈ l, (f c).length ≤ 3) → (l.flatMap fun c => (f c).cps.toList).length ≤ 3 * l.length := fun l => by
      induction l with
      | nil => intro _; simp
      | cons c l ih =>
        intro hh
        have h1 := ih fun c hc => hh c (.tail _ hc)
        have h2 : (f c).cps.toList.length ≤ 3 := hh c (.head _)
        rw [List.flatMap_cons, List.length_append, List.length_cons]
        omega
    have h3 := hfl x.cps.toList fun c hc => (hx c hc).2.1
    have := PySem.sizeLine_eq
    show (List.toArray _).size ≤ _
    rw [List.size_toArray]
    omega
theorem gm_translate {M : Model} {A : Around} {E : Value → Shared → Prop} {s : Shared} {x : Str} {t : Tok} {pl : Sem Bool} {Q : Value × List Value → Shared → Prop} (h : Q (.builtin "str.translate", [.str x t]) s) : wpAny M A (getMethod (.str x t) "translate" pl) Q E s := by
  with_reducible exact GM.of (.str x t) (typeIs_str _ _ _) F.slot_str_translate F.type_str_translate GM.noRef h
theorem call_translate {prog : Program} {w : World} {A : Around} {E : Value → Shared → Prop} {s : Shared} {T : Addr} {items : Array Value} {x : Str} {t : Tok} {f : Nat → Str} {Q : Value → Shared → Prop} (hl : s.heap.IsList T items)
    (hx : ∀ c ∈ x.cps.toList, c < 256 ∧ (f c).length ≤ 3 ∧ ∃ u, items[c]? = some (.str (f c) u)) (hn : 1 ≤ x.length ∧ x.length ≤ 1000)
    (h : ∀ tk tk', Q (.str ⟨((x.cps.toList.flatMap fun c => (f c).cps.toList).toArray)⟩ tk) { s with toks := tk' }) : wpAny (model prog w) A (call (.builtin "str.translate") [.str x t, .ref T]) Q E s := by
  with_reducible exact wpAny_call_entry F.slot_str_translate (typeIs_str _ _ _) F.entry_str_translate (trans_b hl hx hn fun tk tk' => ⟨_, rfl, h tk tk'⟩) (F.args_str_translate_2 _ _)
end
section
namespace AP
noncomputable def bound (l : Addr) : Obj := { cls := .type "builtin_function_or_method", data := .fields #[.builtin "list.append", .ref l] }
theorem slot_get : Slot "method_descriptor" "__get__" "method_descriptor.__get__" :=
  .of (owner := "method_descriptor") (n := "__get__") (by rw [typeLookup_type, builtinLookup_eq_fast]; kernel_rfl) (by decide +kernel) (by decide +kernel) (by decide +kernel)
    (by first | exact .inl (by decide +kernel) | exact .inr (by decide +kernel)) (by rw [isSubtype_type]; kernel_rfl)
theorem entry_get : entryFor table "method_descriptor.__get__" = some Builtin.«method_descriptor.__get__» := entryFor_of_tree (by kernel_rfl)
theorem args_get (a b c : Value) : argsOk "method_descriptor.__get__" ⟨[a, b, c], []⟩ := by unfold argsOk; kernel_rfl
theorem type_ap : typeOf (.builtin "list.append") = pure (.type "method_descriptor") := by show builtinType _ = _; rw [builtinType_eq_fast]; kernel_rfl
theorem type_is {s : Shared} : s.TypeIs (.builtin "list.append") "method_descriptor" := by first | exact type_ap | rfl | (show builtinType _ = _; rw [builtinType_eq_fast]; kernel_rfl)
theorem no_set : typeLookup (.type "method_descriptor") "__set__" = pure none := by rw [typeLookup_type, builtinLookup_eq_fast]; kernel_rfl
theorem no_del : typeLookup (.type "method_descriptor") "__delete__" = pure none := by rw [typeLookup_type, builtinLookup_eq_fast]; kernel_rfl
theorem sub_list : isSubtype (.type "list") (.type "list") = pure true := by rw [isSubtype_type]; kernel_rfl
theorem told : Manifest.toldItsClass.contains "list.append" = false := by decide +kernel
theorem own : ".".intercalate ("list.append".cutAt '.').dropLast = "list" := by decide +kernel
theorem run_get {M : Model} {A : Around} {E : Value → Shared → Prop} {s : Shared} {l : Addr} {P : PySem.Fin → Shared → Prop} (hT : s.TypeIs (.ref l) "list") (h : P (.done (.ret (.ref s.heap.objs.size))) { s with heap := s.heap.push (bound l) }) :
    wpAny M A (Builtin.«method_descriptor.__get__» ⟨[.builtin "list.append", .ref l, .type "list"], []⟩) P E s := by
  unfold Builtin.«method_descriptor.__get__»
  refine wpAny_bind (wpAny_of_eq (a := (.builtin "list.append", some (.ref l), some (.type "list"))) (by first | rfl | kernel_rfl) ?_)
  have ht := told
  have hs := sub_list
  obtain ⟨hp, g, d, tk, os⟩ := s
  simp only [told, Bool.false_eq_true, if_false]
  repeat (any_goals (first | assumption | wp_step))
  rw [own]
  repeat (any_goals (first | assumption | (with_reducible refine wpAny_newObj_type ?_ (by size_fits)) | wp_step))
theorem meets_get (a : Addr) (xs : Array Value) (k : Nat) (u : Tok) : Meets (Builtin.«object.__getattribute__» ⟨[.ref a, .str (PySem.Str.ofString "append") u], []⟩)
    (fun A R s => s.heap.get? a = some { cls := .type "list", dict := none, data := .seq xs k, slots := #[] } ∧ R (.ok (.ret (.ref s.heap.objs.size))) { s with heap := s.heap.push (bound a) }) :=
  Meets.of_wp fun prog w A R s hs => by
    obtain ⟨hp, g, d, tk, os⟩ := s
    obtain ⟨hx, hs⟩ := hs
    have hT : (⟨hp, g, d, tk, os⟩ : Shared).TypeIs (.ref a) "list" := ⟨_, hx, rfl⟩
    have f1 := F.slot_list_append.lookup
    have f2 := type_ap
    have f3 := no_set
    have f4 := no_del
    have f5 := slot_get.lookup
    unfold Builtin.«object.__getattribute__»
    repeat (any_goals (first | assumption | ((with_reducible show wpAny _ _ (call (Value.builtin "method_descriptor.__get__") _) _ _ _); refine wpAny_call_entry slot_get type_is entry_get (run_get hT ⟨_, rfl, ?_⟩) (args_get _ _ _)) | wp_step))
    all_goals exact ⟨_, rfl, hs⟩
theorem append_value {prog : Program} {w : World} {A : Around} {E : Value → Shared → Prop} {s : Shared} {a : Addr} {xs : Array Value} {k : Nat} {Q : Value → Shared → Prop}
    (hx : s.heap.get? a = some { cls := .type "list", dict := none, data := .seq xs k, slots := #[] })
    (h : ∀ tk, Q (.ref s.heap.objs.size) { s with heap := s.heap.push (bound a), toks := tk }) : wpAny (model prog w) A (getAttr (.ref a) (PySem.Str.ofString "append") true) Q E s := by
  obtain ⟨hp, g, d, tk, os⟩ := s
  have hT : ∀ tk', (⟨hp, g, d, tk', os⟩ : Shared).TypeIs (.ref a) "list" := fun _ => ⟨_, hx, rfl⟩
  have f3 := F.slot_list_getattribute.lookup
  have f4 := F.slot_list_getattribute.bind (.ref a)
  have f5 := am_list_getattr_none
  unfold getAttr getAttrBy
  repeat (any_goals (first | assumption | exact hT _ | ((with_reducible show wpAny _ _ (call (Value.builtin "list.__getattribute__") _ _) _ _ _); refine call_meets F.slot_list_getattribute (hT _) am_entry_list_getattribute (F.args_list_getattribute_2 _ _) (meets_get a xs k _) ⟨hx, ?_⟩) | wp_step))
  show wpAny _ _ (handedOut (.ref _)) _ _ _
  have hb : (hp.push (bound a)).get? hp.objs.size = some (bound a) := Heap.get?_push_size _ rfl
  unfold handedOut
  repeat (any_goals (first | assumption | wp_step))
  all_goals exact h _
theorem bound_args (a : Addr) (x : Value) : (match Manifest.signature? "list.append" with | some sig => Bind.checkArgs "list.append" { sig with full := s!"{Bind.lastOf "list"}.{Bind.lastOf "list.append"}" } ⟨[.ref a, x], []⟩ | none => pure ()) = pure () := by
  rw [signature?_of (id := "list.append") (n := ['d', 'n', 'e', 'p', 'p', 'a']) (o := ['t', 's', 'i', 'l']) (by kernel_rfl) F.owner_list]; kernel_rfl
theorem kind_ap : builtinKind "list.append" = some .method := by first | decide +kernel | kernel_rfl
theorem not_mod : isSubtype (.type "list") (.type "module") = pure false := by rw [isSubtype_type]; kernel_rfl
theorem not_var : Manifest.varargsMethods.contains "list.append" = false := by decide +kernel
theorem bound_ok {M : Model} {A : Around} {E : Value → Shared → Prop} {s : Shared} {l : Addr} {x : Value} {items : Array Value} {k : Nat} {Q : Unit → Shared → Prop} (hl : s.heap.get? l = some { cls := .type "list", dict := none, data := .seq items k, slots := #[] })
    (h : Q () s) : wpAny M A (checkBoundCall "list.append" ⟨[.ref l, x], []⟩) Q E s := by
  have hb := bound_args l x
  have hT : s.TypeIs (.ref l) "list" := ⟨_, hl, rfl⟩
  have f1 := not_mod
  unfold checkBoundCall
  cases hsig : Manifest.signature? "list.append" with
  | none => exact wpAny_pure h
  | some sig =>
    rw [hsig] at hb
    dsimp only at hb ⊢
    simp only [kind_ap, not_var, Bool.false_or]
    obtain ⟨hp, g, d, tk, os⟩ := s
    repeat (any_goals (first | assumption | wp_step))
theorem call_bound {prog : Program} {w : World} {A : Around} {E : Value → Shared → Prop} {s : Shared} {f l : Addr} {x : Value} {items : Array Value} {k : Nat} {Q : Value → Shared → Prop} (hf : s.heap.get? f = some (bound l))
    (hl : s.heap.get? l = some { cls := .type "list", dict := none, data := .seq items k, slots := #[] }) (hsz : items.size < 100000)
    (h : Q .none { s with heap := s.heap.update l (Obj.mapSeq (·.push x)) }) : wpAny (model prog w) A (call (.ref f) [x]) Q E s := by
  refine wpAny_call (codeAny_of_tree ?_)
  show wpAny _ A.in1 (callAny (.ref f) ⟨[x], []⟩) _ _ _
  unfold callAny
  refine wpAny_bind (wpAny_load hf ?_)
  show wpAny _ _ (do checkBoundCall "list.append" ⟨[.ref l, x], []⟩; again (.builtin "list.append" ⟨[.ref l, x], []⟩)) _ _ _
  refine wpAny_bind (bound_ok hl (wpAny_pure ⟨plainId_quiet F.slot_list_append.plain _, codeAny_builtin F.entry_list_append ?_⟩))
  rw [Around.under_plainId F.slot_list_append.plain]
  show wpAny _ _ (updateSeq l (·.push x) >>= fun _ => ret .none) _ _ s
  refine wpAny_bind ?_
  refine wpAny_updateSeq hl rfl (wpAny_pure h)
end AP
theorem append_N {prog : Program} {w : World} {A : Around} {E : Value → Shared → Prop} {s : Shared} {h₀ : Heap} {L l : Addr} {m : Str → Option Value} {news : List (Addr × Obj)} {xs : Array Value} {k : Nat} {Q : Value → Shared → Prop}
    (F : Fr h₀ L s.heap m) (N : News h₀ L s.heap news) (hm : (l, ({ cls := .type "list", data := .seq xs k } : Obj)) ∈ news)
    (h : ∀ x h' tk, Fr h₀ L h' m → News h₀ L h' ((x, AP.bound l) :: news) → Q (.ref x) { s with heap := h', toks := tk }) : wpAny (model prog w) A (getAttr (.ref l) (PySem.Str.ofString "append") true) Q E s :=
  AP.append_value (N _ hm).1 fun _ => h _ _ _ (F.push _) (News.push F N _)
end
section
namespace AP
theorem call_boundN {prog : Program} {w : World} {A : Around} {E : Value → Shared → Prop} {s : Shared} {h₀ : Heap} {L f l : Addr} {m : Str → Option Value} {news news' : List (Addr × Obj)} {x : Value} {its : Array Value} {n : Nat} {Q : Value → Shared → Prop}
    (F : Fr h₀ L s.heap m) (N : News h₀ L s.heap news) (hm : (f, AP.bound l) ∈ news) (U : Upd l (listOf its n) (listOf (its.push x) (n + 1)) news news') (hsz : its.size < 100000)
    (h : ∀ h', Fr h₀ L h' m → News h₀ L h' news' → Q .none { s with heap := h' }) : wpAny (model prog w) A (call (.ref f) [x]) Q E s := by
  obtain ⟨pre, post, rfl, rfl, a, b⟩ := U.split
  have z := N (l, listOf its n) (List.mem_append.mpr (.inr (.head _)))
  refine call_bound (N _ hm).1 z.1 hsz ?_
  have ho : s.heap.get? l = some (listOf its n) := z.1
  have ho' : (s.heap.update l (Obj.mapSeq (·.push x))).get? l = some (listOf (its.push x) (n + 1)) := by
    rw [Heap.get?_update_self _ ho (by rw [mapSeq_push]; rfl), mapSeq_push]
  have hs : Heap.SameBut l s.heap (s.heap.update l (Obj.mapSeq (·.push x))) := Heap.SameBut.update ..
  exact h _ (F.change hs z.2.1 z.2.2) (news_set N a b hs ho')
noncomputable def StandsAt (x l : Addr) (h : Heap) : Prop := h.get? x = some (bound l)
section
variable {M : Model} {A : Around} {E : Value → Shared → Prop} {s : Shared} {h₀ : Heap} {L u l : Addr} {news : List (Addr × Obj)}
theorem callWith_fields {pos : Pos} {first : List Value} {args : List (Bool × Sem Value)} {Q : Value → Shared → Prop} (hplain : args.any (·.1) = false)
    (h : wpAny M A (evalArgs (.ref u) true args []) (fun x s₁ => StandsAt u l s₁.heap ∧ wpAny M A (call (.ref u) (first ++ x.pos) x.kw) Q E s₁) E s) : wpAny M A (callWith pos (.ref u) first args []) Q E s := by
  unfold callWith
  refine wpAny_bind (wpAny_holding (wpAny_mono h (fun x s₁ h₁ => wpAny_bind (wpAny_standAt ?_)) fun _ _ x => x))
  obtain ⟨ho, hcall⟩ := h₁
  simp only [hplain, List.any_nil, Bool.or_false]
  refine wpAny_bind (m := keeperOf (.ref u)) ?_
  unfold keeperOf
  refine wpAny_bind (wpAny_load ho ?_)
  simp only [bound, show (Value.type "builtin_function_or_method" != Value.type "method") = true by decide, show (Value.type "builtin_function_or_method" == Value.type "builtin_function_or_method" || Value.type "builtin_function_or_method" == Value.type "method-wrapper") = true by decide, if_true]
  refine wpAny_pure ?_
  exact wpAny_bind (wpAny_mono hcall (fun r s₂ hr => wpAny_bind (wpAny_holding (wpAny_point (wpAny_pure hr)))) fun _ _ x => x)
theorem callWith_bound {pos : Pos} {first : List Value} {env : Env} {e : Expr} {rest : List Expr} {Q : Value → Shared → Prop} (_N : News h₀ L s.heap news) (_hm : (u, bound l) ∈ news)
    (h : wpAny M A (spliced (backTo pos (starEach (e :: rest) env))) (fun vs s₁ => StandsAt u l s₁.heap ∧ wpAny M A (call (.ref u) (first ++ vs)) Q E s₁) E s)
    (he : starEach (e :: rest) env = (false, eval e env) :: starEach rest env := by rfl) (hplain : (backTo pos (starEach rest env)).any (·.1) = false := by rfl) :
    wpAny M A (callWith pos (.ref u) first (backTo pos (starEach (e :: rest) env)) []) Q E s := by
  rw [he] at h ⊢
  refine callWith_fields (l := l) (by show (false || (backTo pos (starEach rest env)).any (·.1)) = false; rw [hplain]; rfl) ?_
  exact evalArgs_plain h
theorem at_of {x : Addr} {h : Heap} (N : News h₀ L h news) (hm : (x, bound l) ∈ news) : StandsAt x l h := N.get hm
end
end AP
end
section
namespace TX
section
variable {prog : Program} {w : World} {A : Around} {E : Value → Shared → Prop} {s : Shared} {env : Env} {h₀ : Heap} {x : Str} {body : List Stmt} {Q : Flow → Shared → Prop}
theorem strs_get {vs : List Value} {xs : List Str} (h : StrsAre vs xs) : ∀ (i : Nat) (y : Str), xs[i]? = some y → ∃ t, vs[i]? = some (Value.str y t) := by
  induction h with
  | nil => intro i y e; simp at e
  | cons a t r ih =>
    intro i y e
    cases i with
    | zero => simp only [List.getElem?_cons_zero, Option.some.injEq] at e; subst e; exact ⟨_, rfl⟩
    | succ i => simp only [List.getElem?_cons_succ] at e ⊢; exact ih i y e
theorem loop {σ : Type} {l : Addr} {vs : List Value} {xs : List Str} {m₀ : Str → Option Value} (Led : σ → List (Addr × Obj)) (ps : σ → List (Str × Value)) (Facts : σ → Prop) (stored : List Str) (P : List Str → σ → Prop) (c₀ : σ)
    (hh : A.handled = none) (hl : s.heap.IsList l vs.toArray) (hlL : l ≠ env.locals) (hi : StrsAre vs xs) (F : Fr h₀ env.locals s.heap m₀) (N : News h₀ env.locals s.heap (Led c₀)) (hoff : ∀ p ∈ Led c₀, p.1 ≠ l) (hf : Facts c₀) (hk : ∀ p ∈ ps c₀, m₀ p.1 = some p.2) (hp : P [] c₀)
    (turn : ∀ (c : σ) (pre post : List Str) (y : Str) t (u : Str → Option Value) h tk own, xs = pre ++ y :: post → OwnOff own ((Led c₀).map (·.1)) → Facts c → P pre c →
      Fr h₀ env.locals h (fun z => if z = x then some (.str y t) else kstB (fun z => if stored.contains z then u z else m₀ z) (ps c) z) → News h₀ env.locals h (Led c ++ own) →
      wpAny (model prog w) A (execs body env) (InvPostN h₀ env.locals (KstS Led ps Facts x stored m₀ (fun _ c => P (pre ++ [y]) c) []) own ((Led c₀).map (·.1)) { s with heap := h, toks := tk } Q) E { s with heap := h, toks := tk })
    (done : ∀ (c : σ) (u : Str → Option Value) h tk, Facts c → P xs c → Fr h₀ env.locals h (fun z => if z = x then u z else kstB (fun z => if stored.contains z then u z else m₀ z) (ps c) z) → News h₀ env.locals h (Led c) → Q .next { s with heap := h, toks := tk }) :
    wpAny (model prog w) A (pyIter (.ref l)) (fun it s₂ => LoopAtV prog w A h₀ env x body Q E it s₂) E s := by
  obtain ⟨ol, hol, _⟩ := id hl
  have hne : l ≠ s.heap.objs.size := Nat.ne_of_lt (Heap.lt_size hol)
  refine wpAny_pyIter_list hl ?_
  have W := Walks.list (prog := prog) (w := w) hh s.heap.objs.size l hne vs.toArray
  have hlen : vs.toArray.size = xs.length := by simp [hi.length]
  rw [hlen] at W
  refine loop_invN (fun i m nx => KstS Led ps Facts x stored m₀ (fun _ c => P (xs.take i) c) [] m nx) W ?_ ?_ ?_ ?_ ⟨⟨_, Heap.get?_push_size _ rfl, rfl, rfl⟩, hl.at fun o e => Heap.get?_push_of_some _ e⟩ (F.push _) (fun p hp => ⟨Heap.get?_push_of_some _ (N p hp).1, (N p hp).2⟩) ⟨c₀, rfl, hf, hk, fun _ _ _ _ => rfl, by simpa using hp⟩ ?_ ?_
  · intro hm
    rcases List.mem_cons.mp hm with e | hm
    · exact absurd F.ns.lt (e ▸ Nat.lt_irrefl _)
    · exact hlL (List.mem_singleton.mp hm).symm
  · intro b hb
    rw [List.mem_singleton.mp hb]
    exact next_is_new F
  · intro p hp hI
    exact absurd (Heap.lt_size (N p hp).1) ((List.mem_singleton.mp hI) ▸ Nat.lt_irrefl _)
  · intro p hp hI
    rcases List.mem_cons.mp hI with e | hI
    · exact absurd (Heap.lt_size (N p hp).1) (e ▸ Nat.lt_irrefl _)
    · exact hoff p hp (List.mem_singleton.mp hI)
  · rintro i v m₁ nx h tk own hi' hP _ hoff' ⟨c, rfl, hf', h1, h2, hp'⟩ F₁ N₁
    obtain ⟨y, hy⟩ : ∃ y, xs[i]? = some y := ⟨xs[i], by simp [hi']⟩
    obtain ⟨t, hx⟩ := strs_get hi i y hy
    have hv : v = .str y t := by
      have hP' : vs[i]? = some v := by simpa using hP
      rw [hx] at hP'
      exact (Option.some.inj hP').symm
    subst hv
    have hs : xs.take (i + 1) = xs.take i ++ [y] := by simp [List.take_add_one, hy]
    have e : xs = xs.take i ++ y :: xs.drop (i + 1) := by
      have ht := List.take_append_drop (i + 1) xs
      rw [hs, List.append_assoc] at ht
      exact ht.symm
    rw [hs]
    exact turn c _ _ _ t m₁ h tk own e hoff' hf' hp' (kst_fr h1 h2 F₁) N₁
  · rintro m₁ nx h tk ⟨c, rfl, hf', h1, h2, hp'⟩ F₁ N₁
    rw [List.take_length] at hp'
    exact done c m₁ h tk hf' hp' (kst_frOut h1 h2 F₁) N₁
end
end TX
end
section
namespace NT
theorem slice_sub (x : Str) (a b : Option Int) : ∀ c ∈ (Txt.slice x a b).cps.toList, c ∈ x.cps.toList := by
  intro c hc
  unfold Txt.slice at hc
  split at hc
  · exact hc
  · have hc' : c ∈ (Builtin.Str.strSliceIndices a b 1 x.length).filterMap (x.cps[·]?) := hc
    obtain ⟨i, _, hi⟩ := List.mem_filterMap.mp hc'
    rw [← Array.getElem?_toList] at hi
    exact List.mem_of_getElem? hi
theorem strip_sub (x : Str) : ∀ c ∈ (Txt.strip x).cps.toList, c ∈ x.cps.toList := by
  intro c hc
  unfold Txt.strip Txt.stripBy at hc
  split at hc
  · exact hc
  · unfold PySem.stripped at hc
    rw [PySem.StrLaws.strSub_toList] at hc
    exact List.mem_of_mem_drop (List.mem_of_mem_take hc)
theorem signs_ok {x z : Str} (hx : ∀ c ∈ x.cps.toList, c < 256) (hz : ∀ c ∈ z.cps.toList, c ∈ x.cps.toList) (p : Str → Bool) : ∀ y ∈ (signs z).filter p, PyData.strOk y = true := by
  intro y hy
  have h1 := (List.mem_filter.mp hy).1
  unfold signs at h1
  obtain ⟨c, hc, rfl⟩ := List.mem_map.mp h1
  have := hx c (hz c hc)
  show (#[c].all fun x => decide (x < 0x110000)) = true
  simp
  omega
theorem figs_ok {x : Str} (hx : ∀ c ∈ x.cps.toList, c < 256) (a b : Option Int) (p : Str → Bool) : ∀ y ∈ (signs (Txt.strip (Txt.slice x a b))).filter p, PyData.strOk y = true :=
  signs_ok hx (fun c hc => slice_sub _ _ _ c (strip_sub _ c hc)) p
theorem lay0 : ∀ ns : List Str, (∀ y ∈ ns, PyData.strOk y = true) → PyData.canLayAll0 (ns.map PyData.str) = true
  | [], _ => rfl
  | y :: r, h => by simp [PyData.canLayAll0, PyData.canLay0, lay0 r (fun y hy => h y (.tail _ hy)), h y (.head _)]
theorem depth0 : ∀ ns : List Str, PyData.depthAll (ns.map PyData.str) = 0
  | [] => rfl
  | _ :: r => by simp [PyData.depthAll, PyData.depth, depth0 r]
theorem shaped (ns : List Str) (h : ∀ y ∈ ns, PyData.strOk y = true) : SeqAt.shaped (.list (ns.map PyData.str)) = true := by
  simp [SeqAt.shaped, PyData.canLay0, PyData.depth, lay0 ns h, depth0]
theorem same_nil (ns : List Str) : PySem.Spec.same (.list (ns.map PyData.str)) (.list (([] : List Str).map PyData.str)) = decide (ns = []) := by
  simp only [PySem.Spec.same]
  cases ns <;> simp [PySem.Spec.sameAll]
section
variable {prog : Program} {w : World} {A : Around} {E : Value → Shared → Prop} {s : Shared} {a b : Addr} {xs : List Value} {ns : List Str} {Q : Value → Shared → Prop} {h₀ : Heap} {L : Addr} {news : List (Addr × Obj)} {n : Nat}
theorem ne_nil (ha : s.heap.IsList a xs.toArray) (hb : s.heap.IsList b (List.toArray ([] : List Value))) (hi : CarriedAll xs (ns.map PyData.str)) (hok : ∀ y ∈ ns, PyData.strOk y = true) (hu : A.units + 64 < cLine) (h : Q (.bool (!decide (ns = []))) s) :
    wpAny (model prog w) A (compareOp .NotEq (.ref a) (.ref b)) Q E s :=
  ne_dataH_same (reads_newData ha hi) (reads_newData (ds := ([] : List Str).map PyData.str) hb .nil) (shaped _ hok) (shaped _ fun _ h => nomatch h) hu (SeqAt.noMix_of_shape (.list .str) rfl _ _ (list_map_has fun _ => rfl) (list_map_has fun _ => rfl)) (by rw [same_nil]; exact h)
theorem ne_nilN (N : News h₀ L s.heap news) (h1 : (a, listOf xs.toArray n) ∈ news) (h2 : (b, listOf #[] 0) ∈ news) (hi : CarriedAll xs (ns.map PyData.str)) (hok : ∀ y ∈ ns, PyData.strOk y = true) (hu : A.units + 64 < cLine) (h : Q (.bool (!decide (ns = []))) s) :
    wpAny (model prog w) A (compareOp .NotEq (.ref a) (.ref b)) Q E s := ne_nil ⟨_, (N _ h1).1, rfl, n, rfl⟩ ⟨_, (N _ h2).1, rfl, 0, rfl⟩ hi hok hu h
end
end NT
end
section
namespace DL
section
variable {prog : Program} {w : World} {A : Around} {E : Value → Shared → Prop} {s : Shared} {env : Env} {h₀ : Heap} {x : Str} {body : List Stmt} {Q : Flow → Shared → Prop}
noncomputable def End (h₀ : Heap) (L : Addr) (x : Str) (m₀ : Str → Option Value) (R : Addr) (own : List (Addr × Obj)) (P : List Str → List Int → Prop) (s₁ : Shared) (f : Flow) (s₂ : Shared) : Prop :=
  (f = .next ∨ f = .cont) ∧ ∃ h' tk m' Lb rv rs kr lv ln kl, s₂ = { s₁ with heap := h', toks := tk } ∧ Fr h₀ L h' m' ∧ News h₀ L h' ((R, listOf (List.toArray rv) kr) :: (Lb, listOf (List.toArray lv) kl) :: own) ∧
    (∀ z, z ≠ x → m' z = if z = Str.ofString "line" then some (.ref Lb) else m₀ z) ∧ R ≠ Lb ∧ (∀ p ∈ own, p.1 ≠ Lb) ∧ StrsAre rv rs ∧ IntsAre lv ln ∧ P rs ln
theorem loop {D R La : Addr} {its : List Value} {nd : Nat} {ns : List Int} {m₀ : Str → Option Value} {news : List (Addr × Obj)} (P : List Int → List Str → List Int → Prop)
    (hh : A.handled = none) (hi : IntsAre its ns) (F : Fr h₀ env.locals s.heap m₀) (N : News h₀ env.locals s.heap news) (hD : (D, listOf its.toArray nd) ∈ news) (hR : (R, listOf #[] 0) ∈ news) (hLa : (La, listOf #[] 0) ∈ news)
    (hDR : R ≠ D) (hDL : La ≠ D) (hRL : R ≠ La) (hmL : m₀ (Str.ofString "line") = some (.ref La)) (hp : P [] [] [])
    (turn : ∀ it io od rv rs kr Lb lv ln kl pre n post t h tk, ns = pre ++ n :: post → n ∈ ns → @Ne Nat R it → @Ne Nat D it → @Ne Nat R D → @Ne Nat R Lb → @Ne Nat Lb it → @Ne Nat Lb D → StrsAre rv rs → IntsAre lv ln → P pre rs ln →
      Fr h₀ env.locals h (fun z => if z = x then some (.int n t) else if z = Str.ofString "line" then some (.ref Lb) else m₀ z) →
      News h₀ env.locals h [(R, listOf (List.toArray rv) kr), (Lb, listOf (List.toArray lv) kl), (it, io), (D, od)] →
      wpAny (model prog w) A (execs body env) (End h₀ env.locals x m₀ R [(it, io), (D, od)] (P (pre ++ [n])) { s with heap := h, toks := tk }) E { s with heap := h, toks := tk })
    (done : ∀ rv rs kr ln (u : Option Value) (Lb : Addr) h tk, StrsAre rv rs → P ns rs ln → Fr h₀ env.locals h (fun z => if z = x then u else if z = Str.ofString "line" then some (.ref Lb) else m₀ z) →
      News h₀ env.locals h [(R, listOf (List.toArray rv) kr)] → Q .next { s with heap := h, toks := tk }) :
    wpAny (model prog w) A (pyIter (.ref D)) (fun it s₂ => LoopAtV prog w A h₀ env x body Q E it s₂) E s := by
  have hol : s.heap.get? D = some (listOf its.toArray nd) := (N _ hD).1
  have hls : s.heap.IsList D its.toArray := ⟨_, hol, rfl, nd, rfl⟩
  have hne : D ≠ s.heap.objs.size := Nat.ne_of_lt (Heap.lt_size hol)
  refine wpAny_pyIter_list hls ?_
  have W := Walks.list (prog := prog) (w := w) hh s.heap.objs.size D hne its.toArray
  have hlen : its.toArray.size = ns.length := by simp [hi.length]
  rw [hlen] at W
  have hIt : h₀.get? s.heap.objs.size = none := next_is_new F
  have hRit : R ≠ s.heap.objs.size := Nat.ne_of_lt (Heap.lt_size (N _ hR).1)
  have hLit : La ≠ s.heap.objs.size := Nat.ne_of_lt (Heap.lt_size (N _ hLa).1)
  have hLL : env.locals ≠ s.heap.objs.size := fun e => absurd F.ns.lt (e ▸ Nat.lt_irrefl _)
  refine ⟨_, _, _, ns.length, _, _, m₀, [(R, listOf #[] 0), (La, listOf #[] 0)], (fun i m nx => ∃ Lb rv rs kr lv ln kl, nx = [(R, listOf (List.toArray rv) kr), (Lb, listOf (List.toArray lv) kl)] ∧ (∀ z, z ≠ x → m z = if z = Str.ofString "line" then some (.ref Lb) else m₀ z) ∧ R ≠ Lb ∧ Lb ≠ s.heap.objs.size ∧ Lb ≠ D ∧ StrsAre rv rs ∧ IntsAre lv ln ∧ P (ns.take i) rs ln), rfl, W, ?_, ?_, ?_,
    ⟨⟨_, Heap.get?_push_size _ rfl, rfl, rfl⟩, hls.at fun o e => Heap.get?_push_of_some _ e⟩, F.push _, ?_, ?_, ?_, ?_⟩
  · intro hm
    rcases List.mem_cons.mp hm with e | hm
    · exact hLL e
    · exact (N _ hD).2.1 (List.mem_singleton.mp hm).symm
  · intro b hb
    rw [List.mem_singleton.mp hb]
    exact hIt
  · intro p hp hI
    rcases List.mem_cons.mp hp with rfl | hp
    · exact hRit (List.mem_singleton.mp hI)
    · rw [List.mem_singleton.mp hp] at hI
      exact hLit (List.mem_singleton.mp hI)
  · intro p hp
    rcases List.mem_cons.mp hp with rfl | hp
    · exact ⟨Heap.get?_push_of_some _ (N _ hR).1, (N _ hR).2⟩
    · rw [List.mem_singleton.mp hp]
      exact ⟨Heap.get?_push_of_some _ (N _ hLa).1, (N _ hLa).2⟩
  · refine ⟨La, [], [], 0, [], [], 0, rfl, fun z hz => ?_, hRL, hLit, hDL, .nil, .nil, by simpa using hp⟩
    by_cases e : z = Str.ofString "line"
    · rw [if_pos e, e]; exact hmL
    · rw [if_neg e]
  · rintro i v m₁ news₁ s₁ own ⟨hh', tk', rfl⟩ hin hP ⟨Lb, rv, rs, kr, lv, ln, kl, rfl, hm, hRLb, hLbi, hLbD, hrv, hlv, hp'⟩ hoff hown hget hall hst F₁ N₁
    have hlt' : i < ns.length := hin
    obtain ⟨n, hnn⟩ : ∃ n, ns[i]? = some n := ⟨ns[i], by simp [hlt']⟩
    obtain ⟨t, hx⟩ := hi.get i n hnn
    have hv : v = .int n t := by
      have hP' : its[i]? = some v := by simpa using hP
      rw [hx] at hP'; exact (Option.some.inj hP').symm
    subst hv
    obtain ⟨⟨io, hio, _⟩, od, hod, _⟩ := id hst
    dsimp only at hio hod hget hall
    have hDn : h₀.get? D = none := (N _ hD).2.2
    have mIt : (s.heap.objs.size, io) ∈ own := hall _ (.head _) hIt _ hio
    have mD : (D, od) ∈ own := hall _ (.tail _ (.head _)) hDn _ hod
    have hs : ns.take (i + 1) = ns.take i ++ [n] := by simp [List.take_add_one, hnn]
    have e : ns = ns.take i ++ n :: ns.drop (i + 1) := by
      have ht := List.take_append_drop (i + 1) ns
      rw [hs, List.append_assoc] at ht
      exact ht.symm
    have em : (fun y => if y = x then some (Value.int n t) else m₁ y) = fun z => if z = x then some (Value.int n t) else if z = Str.ofString "line" then some (.ref Lb) else m₀ z := by
      funext z
      by_cases hz : z = x
      · rw [if_pos hz, if_pos hz]
      · rw [if_neg hz, if_neg hz]; exact hm z hz
    rw [em] at F₁
    have N₂ : News h₀ env.locals hh' [(R, listOf (List.toArray rv) kr), (Lb, listOf (List.toArray lv) kl), (s.heap.objs.size, io), (D, od)] := by
      intro p hp
      simp only [List.mem_cons, List.not_mem_nil, or_false] at hp
      rcases hp with rfl | rfl | rfl | rfl
      · exact N₁ _ (List.mem_append.mpr (.inr (.head _)))
      · exact N₁ _ (List.mem_append.mpr (.inr (.tail _ (.head _))))
      · exact N₁ _ (List.mem_append.mpr (.inl mIt))
      · exact N₁ _ (List.mem_append.mpr (.inl mD))
    refine wpAny_mono (turn s.heap.objs.size io od rv rs kr Lb lv ln kl _ n _ t hh' tk' e (List.mem_of_getElem? hnn) hRit hne hDR hRLb hLbi hLbD hrv hlv hp' F₁ N₂) (fun f s₂ p => ?_) fun _ _ e => e
    obtain ⟨hf, h'', tk'', m', Lc, rv', rs', kr', lv', ln', kl', rfl, F', N', hm', hRL', hown', hrv', hlv', hp''⟩ := p
    have fin : LoopStepU h₀ env.locals [s.heap.objs.size] own (fun m nx => ∃ Lb rv rs kr lv ln kl, nx = [(R, listOf (List.toArray rv) kr), (Lb, listOf (List.toArray lv) kl)] ∧ (∀ z, z ≠ x → m z = if z = Str.ofString "line" then some (.ref Lb) else m₀ z) ∧ R ≠ Lb ∧ Lb ≠ s.heap.objs.size ∧ Lb ≠ D ∧ StrsAre rv rs ∧ IntsAre lv ln ∧ P (ns.take (i + 1)) rs ln) { s with heap := hh', toks := tk' } .next { s with heap := h'', toks := tk'' } := by
      refine ⟨rfl, h'', tk'', m', [(R, listOf (List.toArray rv') kr'), (Lc, listOf (List.toArray lv') kl')], rfl, F', fun p hp => ?_, fun p hp hI => ?_, Lc, rv', rs', kr', lv', ln', kl', rfl, hm', hRL', fun q => hown' _ (.head _) q.symm, fun q => hown' _ (.tail _ (.head _)) q.symm, hrv', hlv', by rw [hs]; exact hp''⟩
      · rcases List.mem_append.mp hp with hp | hp
        · have h1 := hget p hp
          rcases List.mem_cons.mp (hown p hp) with h2 | h2
          · have h3 : p = (s.heap.objs.size, io) := Prod.ext h2 (by rw [h2, hio] at h1; exact (Option.some.inj h1).symm)
            rw [h3]
            exact N' _ (.tail _ (.tail _ (.head _)))
          · have h2 := List.mem_singleton.mp h2
            have h3 : p = (D, od) := Prod.ext h2 (by rw [h2, hod] at h1; exact (Option.some.inj h1).symm)
            rw [h3]
            exact N' _ (.tail _ (.tail _ (.tail _ (.head _))))
        · rcases List.mem_cons.mp hp with rfl | hp
          · exact N' _ (.head _)
          · rw [List.mem_singleton.mp hp]
            exact N' _ (.tail _ (.head _))
      · have hI := List.mem_singleton.mp hI
        rcases List.mem_cons.mp hp with rfl | hp
        · exact hRit hI
        · rw [List.mem_singleton.mp hp] at hI
          exact hown' _ (.head _) hI.symm
    rcases hf with rfl | rfl
    · exact .next fin
    · exact .cont fin
  · rintro h' tk m' news' F' N' _ ⟨Lb, rv, rs, kr, lv, ln, kl, rfl, hm, hRLb, hLbi, hLbD, hrv, hlv, hp'⟩
    rw [List.take_length] at hp'
    refine done rv rs kr ln (m' x) Lb h' tk hrv hp' ?_ fun p hp => N' p (List.mem_singleton.mp hp ▸ .head _)
    have em : (fun z => if z = x then m' x else if z = Str.ofString "line" then some (.ref Lb) else m₀ z) = m' := by
      funext z
      by_cases hz : z = x
      · rw [if_pos hz, hz]
      · rw [if_neg hz]; exact (hm z hz).symm
    rw [em]
    exact F'
end
end DL
namespace DL
theorem ints_snoc {vs : List Value} {ns : List Int} (h : IntsAre vs ns) (n : Int) (t : Tok) : IntsAre (vs ++ [.int n t]) (ns ++ [n]) := by
  induction h with
  | nil => exact .cons _ _ .nil
  | cons a u r ih => exact .cons _ _ ih
theorem strs_app {vs us : List Value} {rs qs : List Str} (h : StrsAre vs rs) (h2 : StrsAre us qs) : StrsAre (vs ++ us) (rs ++ qs) := by
  induction h with
  | nil => exact h2
  | cons a t r ih => exact .cons _ _ ih
section
variable {h₀ h' : Heap} {L R Lb Lc it D r : Addr} {x : Str} {m₀ m' : Str → Option Value} {o oL io od : Obj} {rv us lv : List Value} {rs qs : List Str} {ln : List Int} {k kr kl tk : Nat} {P : List Str → List Int → Prop} {s₁ : Shared} {n : Int} {t : Tok}
theorem end1 (F : Fr h₀ L h' m') (N : News h₀ L h' [(Lc, W.listOf #[] 0), (r, o), (R, W.listOf (List.toArray rv ++ List.toArray us) k), (Lb, oL), (it, io), (D, od)]) (hm : ∀ z, z ≠ x → m' z = if z = Str.ofString "line" then some (.ref Lc) else m₀ z)
    (l1 : @LT.lt Nat _ r Lc ∧ @LT.lt Nat _ R Lc ∧ @LT.lt Nat _ Lb Lc ∧ @LT.lt Nat _ it Lc ∧ @LT.lt Nat _ D Lc) (h1 : StrsAre rv rs) (h2 : StrsAre us qs) (hp : P (rs ++ qs) []) : End h₀ L x m₀ R [(it, io), (D, od)] P s₁ .next { s₁ with heap := h', toks := tk } := by
  refine ⟨.inl rfl, h', tk, m', Lc, rv ++ us, rs ++ qs, k, [], [], 0, rfl, F, fun p hp => ?_, hm, Nat.ne_of_lt l1.2.1, fun p hp => ?_, strs_app h1 h2, .nil, hp⟩
  · rcases List.mem_cons.mp hp with rfl | hp
    · have := N _ (.tail _ (.tail _ (.head _)))
      rw [List.append_toArray] at this
      exact this
    · rcases List.mem_cons.mp hp with rfl | hp
      · exact N _ (.head _)
      · exact N _ (.tail _ (.tail _ (.tail _ (.tail _ hp))))
  · rcases List.mem_cons.mp hp with rfl | hp
    · exact Nat.ne_of_lt l1.2.2.2.1
    · rw [List.mem_singleton.mp hp]
      exact Nat.ne_of_lt l1.2.2.2.2
theorem end2 (F : Fr h₀ L h' m') (N : News h₀ L h' [(R, W.listOf (List.toArray rv) kr), (Lb, W.listOf ((List.toArray lv).push (.int n t)) kl), (it, io), (D, od)]) (hm : ∀ z, z ≠ x → m' z = if z = Str.ofString "line" then some (.ref Lb) else m₀ z)
    (q1 : @Ne Nat R Lb) (q2 : @Ne Nat Lb it) (q3 : @Ne Nat Lb D) (h1 : StrsAre rv rs) (h2 : IntsAre lv ln) (hp : P rs (ln ++ [n])) : End h₀ L x m₀ R [(it, io), (D, od)] P s₁ .next { s₁ with heap := h', toks := tk } := by
  refine ⟨.inl rfl, h', tk, m', Lb, rv, rs, kr, lv ++ [.int n t], ln ++ [n], kl, rfl, F, fun p hp => ?_, hm, q1, fun p hp => ?_, h1, ints_snoc h2 n t, hp⟩
  · rw [List.push_toArray] at N
    exact N p hp
  · rcases List.mem_cons.mp hp with rfl | hp
    · exact Ne.symm q2
    · rw [List.mem_singleton.mp hp]
      exact Ne.symm q3
end
end DL
end
section
namespace LA
theorem seq_iadd : seqSlot? (.type "list") (dunderI "add") = pure (some (.builtin "list.__iadd__")) := PySem.seqSlot_of F.slot_list_iadd.lookup (by decide +kernel)
theorem isSeq_iadd : isSeqSlot (some (.builtin "list.__iadd__")) = true := by decide +kernel
theorem fills_iadd : fillsInplaceSlot (.type "list") "add" (Operator.Add == .Add) = pure false := by
  unfold fillsInplaceSlot
  show (typeLookup (.type "list") (dunderI "add") >>= fun fi => pure (fi.isSome && !isSeqSlot fi)) = pure false
  rw [F.slot_list_iadd.lookup, pure_bind, isSeq_iadd]
  rfl
section
variable {prog : Program} {w : World} {A : Around} {E : Value → Shared → Prop} {s : Shared} {h₀ : Heap} {L a b : Addr} {m : Str → Option Value} {news news' : List (Addr × Obj)} {its its2 : Array Value} {n n2 : Nat} {Q : Value → Shared → Prop}
theorem iadd_at (ha : s.heap.get? a = some (W.listOf its n)) (hb : s.heap.get? b = some (W.listOf its2 n2)) (hz : its.size + its2.size ≤ 100000) (h : Q (.ref a) { s with heap := s.heap.update a (Obj.mapSeq fun x => x ++ its2) }) :
    wpAny (model prog w) A (inplaceOp .Add (.ref a) (.ref b)) Q E s := by
  have hs := PySem.sizeLine_eq
  unfold inplaceOp
  refine wpAny_holding ?_
  refine wpAny_bind (wpAny_typeOf (⟨_, ha, rfl⟩ : s.TypeIs (.ref a) "list") (wpAny_bind (wpAny_of_eq fills_iadd ?_)))
  show wpAny _ A (if false = true then _ else _) Q E s
  rw [if_neg Bool.false_ne_true]
  refine wpAny_bind (wpAny_binaryOp1_none (nm := "add") (⟨_, ha, rfl⟩ : s.TypeIs (.ref a) "list") (⟨_, hb, rfl⟩ : s.TypeIs (.ref b) "list") noFill_list_add ?_)
  refine wpAny_bind (wpAny_of_eq seq_iadd ?_)
  refine wpAny_bind (wpAny_rule ?_)
  refine call_meets F.slot_list_iadd ⟨_, ha, rfl⟩ F.entry_list_iadd (F.args_list_iadd_2 _ _) (AutoSeq1.list___iadd___list_list_0 a its n b its2 n2 ?_ (by omega) (by omega)) ⟨ha, hb, ?_⟩
  · intro q
    have := (Bool.and_eq_true_iff.mp q).2
    unfold Builtin.List.listTooLong at this
    simp at this
    omega
  · first
      | exact h
      | exact ⟨_, rfl, h⟩
      | exact wpAny_pure h
theorem iadd_N (F : Fr h₀ L s.heap m) (N : News h₀ L s.heap news) (hb : (b, W.listOf its2 n2) ∈ news) (U : Upd a (W.listOf its n) (W.listOf (its ++ its2) (if (its ++ its2).size == its.size then n else n + 1)) news news') (hz : its.size + its2.size ≤ 100000)
    (h : ∀ h', Fr h₀ L h' m → News h₀ L h' news' → Q (.ref a) { s with heap := h' }) : wpAny (model prog w) A (inplaceOp .Add (.ref a) (.ref b)) Q E s := by
  obtain ⟨pre, post, rfl, rfl, ap, bp⟩ := U.split
  have z := N (a, W.listOf its n) (List.mem_append.mpr (.inr (.head _)))
  refine iadd_at z.1 (N _ hb).1 hz ?_
  have ho : IsL s.heap a its n := z.1
  have ho' := ho.update (fun x => x ++ its2)
  have hs : Heap.SameBut a s.heap (s.heap.update a (Obj.mapSeq fun x => x ++ its2)) := Heap.SameBut.update ..
  exact h _ (F.change hs z.2.1 z.2.2) (news_set N ap bp hs ho')
theorem strs_take {vs : List Value} {rs : List Str} (h : StrsAre vs rs) : ∀ k, StrsAre (vs.take k) (rs.take k) := by
  induction h with
  | nil => intro k; simp; exact .nil
  | cons a t r ih =>
    intro k
    cases k with
    | zero => exact .nil
    | succ k => exact .cons _ _ (ih k)
theorem pick_init {vs : List Value} {rs : List Str} (hi : StrsAre vs rs) : StrsAre (slicePick vs.toArray none (some (-1)) none).toList rs.dropLast := by
  have e : sliceBounds none (some (-1)) none vs.toArray.size = (((0 : Nat) : Int), ((vs.toArray.size - 1 : Nat) : Int), 1) := by
    simp only [sliceBounds, Option.getD_none, show (1 : Int) > 0 by decide, if_true, if_pos (show (-1 : Int) < 0 by decide)]
    congr 1
    congr 1
    omega
  rw [kmk_pick_nat _ e]
  show StrsAre ((vs.drop 0).take (vs.toArray.size - 1 - 0)) _
  rw [List.drop_zero, Nat.sub_zero, List.size_toArray, hi.length, List.dropLast_eq_take]
  exact strs_take hi _
theorem slice_init {value slice : Expr} {l : Addr} {vs : List Value} {rs : List Str} {u : Tok} (F : Fr h₀ L s.heap m) (N : News h₀ L s.heap news) (hm : (l, W.listOf vs.toArray n) ∈ news) (hi : StrsAre vs rs)
    (h : ∀ D ws h', Fr h₀ L h' m → News h₀ L h' ((D, W.listOf (List.toArray ws) 0) :: news) → (∀ p ∈ news, p.1 < D) → StrsAre ws rs.dropLast → Q (.ref D) { s with heap := h' })
    (hs : subscripted slice false (.ref l) (.ref s.heap.objs.size) = operate [.ref s.heap.objs.size, .ref l] (getItem (.ref l) (.ref s.heap.objs.size))) (ht : ∀ r, letTemporaryGo value (.ref l) r = pure ()) (hz : vs.length ≤ 100000) :
    wpAny (model prog w) A (subscriptTail value slice (.ref l) (.ref s.heap.objs.size)) Q E { s with heap := s.heap.push { cls := .type "slice", data := .fields #[.none, .int (-1) u, .none] } } := by
  refine kmk_slice F N (N.isList hm) IsPart.none (IsPart.int _ _) (fun D h' F' N' l1 => h D (slicePick vs.toArray none (some (-1)) none).toList h' F' ?_ l1 (pick_init hi)) hs ht (by rw [List.size_toArray, PySem.sizeLine_eq]; omega)
  rw [Array.toArray_toList]
  exact N'
end
end LA
end
section
section
variable {prog : Program} {w : World} {A : Around} {E : Value → Shared → Prop} {R : Result → Shared → Prop} {s : Shared} {env : Env} {h₀ : Heap} {x : Str} {px : Pos} {body : List Stmt} {m : Str → Option Value} {news : List (Addr × Obj)}
theorem rangeP {r : Addr} {a₀ b₀ : Int} {t₀ u₀ v₀ : Tok} {n : Nat} (hh : A.handled = none) (hr : IsRange s.heap r a₀ b₀ 1 t₀ u₀ v₀) (hsmall : Builtin.Range.small a₀ b₀ 1 = true) (hn : Builtin.Range.rangeSize a₀ b₀ 1 = (n : Int))
    (hx : env.kindOf x = some .local) (hp : (env.scope.kind == .class || (env.scope.kind == .module && env.locals != env.globals)) = false)
    (F : Fr h₀ env.locals s.heap m) (N : News h₀ env.locals s.heap news)
    (turn : ∀ (i : Nat) t h tk I io, i < n → (∀ p ∈ news, @Ne Nat p.1 I) → Fr h₀ env.locals h (fun y => if y = x then some (.int (a₀ + (i : Int)) t) else m y) → News h₀ env.locals h ((I, io) :: news) →
      wpP (model prog w) A (execs body env) (fun f s' => f = .next ∧ ∃ h' tk' m', s' = { s with heap := h', toks := tk' } ∧ Fr h₀ env.locals h' m' ∧ News h₀ env.locals h' ((I, io) :: news) ∧ ∀ z, z ≠ x → m' z = m z)
        (notedBy (model prog w) A env fun e s' => R (.error e) s') { s with heap := h, toks := tk })
    (done : ∀ h tk, (∃ u : Str → Option Value, Fr h₀ env.locals h (fun y => if y = x then u y else m y)) → News h₀ env.locals h news → R (.ok .next) { s with heap := h, toks := tk }) :
    wpAny (model prog w) A (pyIter (.ref r)) (fun it s₂ => codeP (model prog w) A (.forLoop (.Name x px) it body [] env) R s₂) E s := by
  refine wpAny_pyIter_range hr hsmall ?_
  have W : Walks prog w A s.heap.objs.size [s.heap.objs.size] [s.heap.objs.size] n (fun i v => i < n ∧ ∃ t, v = .int (a₀ + i * 1) t)
      (fun i h => IsRangeIter h s.heap.objs.size (a₀ + (i : Nat) * 1) ((n : Int) - (i : Nat)) 1) := (Walks.range hh _ a₀ 1 n).bound
  have hIn : h₀.get? s.heap.objs.size = none := next_is_new F
  have hIL : env.locals ≠ s.heap.objs.size := fun e => absurd F.ns.lt (e ▸ Nat.lt_irrefl _)
  have hoff : ∀ p ∈ news, @Ne Nat p.1 s.heap.objs.size := fun p hp => Nat.ne_of_lt (Heap.lt_size (N p hp).1)
  refine codeP_forLoop (fun k s' => ∃ h' tk m' i, s' = { s with heap := h', toks := tk } ∧ IsRangeIter h' s.heap.objs.size (a₀ + (i : Nat) * 1) ((n : Int) - (i : Nat)) 1 ∧ Fr h₀ env.locals h' m' ∧ News h₀ env.locals h' news ∧ (∀ z, z ≠ x → m' z = m z) ∧ i ≤ n ∧ k = n + 1 - i) ?_ (n + 1)
    ⟨_, _, m, 0, rfl, by show IsRangeIter _ _ _ _ _; rw [hn]; simpa using Heap.get?_push_size _ rfl, F.push _, (fun p hp => ⟨Heap.get?_push_of_some _ (N p hp).1, (N p hp).2⟩), (fun _ _ => rfl), Nat.zero_le _, rfl⟩ (by intro _; rfl)
  rintro k s' ⟨h', tk, m', i, rfl, hst', F', N', hm', hi, rfl⟩
  have next : ∀ h₁ : Heap, (∀ b o, b ∉ [s.heap.objs.size] → h'.get? b = some o → h₁.get? b = some o) → Fr h₀ env.locals h₁ m' ∧ News h₀ env.locals h₁ news := fun h₁ hk₁ =>
    ⟨⟨F'.ns.at' fun o e => hk₁ _ o (fun q => hIL (List.mem_singleton.mp q)) e, fun b o e => hk₁ b o (fun q => by rw [List.mem_singleton.mp q, hIn] at e; cases e) (F'.keep b o e), F'.above⟩,
      fun p hp => ⟨hk₁ _ _ (fun q => hoff p hp (List.mem_singleton.mp q)) (N' p hp).1, (N' p hp).2⟩⟩
  by_cases hlt : i < n
  · refine W.item i _ _ _ hlt hst' fun v h₁ tk₁ hP hst₁ hk₁ => ?_
    obtain ⟨_, t, rfl⟩ := hP
    obtain ⟨F₁, N₁⟩ := next h₁ hk₁
    refine wpAny_assign_Name (wpAny_storeName_local hx F₁.ns (fun h₂ hn₂ hs₂ => ?_) hp)
    have F₂ := F₁.set hn₂ hs₂
    have N₂ := N₁.set hs₂
    have hst₂ : h₂.get? s.heap.objs.size = _ := (hs₂.2 _ (Ne.symm hIL)).trans hst₁
    have e1 : a₀ + (i : Int) * 1 = a₀ + (i : Int) := by omega
    rw [e1] at F₂
    have em : (fun y => if y = x then some (Value.int (a₀ + (i : Int)) t) else m' y) = fun y => if y = x then some (Value.int (a₀ + (i : Int)) t) else m y := by
      funext y
      by_cases hy : y = x
      · rw [if_pos hy, if_pos hy]
      · rw [if_neg hy, if_neg hy]; exact hm' y hy
    rw [em] at F₂
    refine wpP_mono (turn i t h₂ _ s.heap.objs.size { cls := .type "range_iterator", data := .fields #[rawInt (a₀ + ((i + 1 : Nat) : Int) * 1), rawInt ((n : Int) - ((i + 1 : Nat) : Int)), rawInt 1] } hlt hoff F₂ (fun p hp => ?_)) (fun f s₃ h₃ => ?_) fun _ _ e => e
    · rcases List.mem_cons.mp hp with rfl | hp
      · exact ⟨hst₂, Ne.symm hIL, hIn⟩
      · exact N₂ p hp
    · obtain ⟨rfl, h'', tk'', m'', rfl, F₃, N₃, hm₃⟩ := h₃
      exact ⟨n + 1 - (i + 1), by omega, h'', tk'', m'', i + 1, rfl, (N₃ _ (.head _)).1, F₃, fun p hp => N₃ p (.tail _ hp), hm₃, hlt, rfl⟩
  · have hin : i = n := by omega
    subst hin
    refine W.done _ _ _ hst' fun h₁ tk₁ hk₁ => wpAny_execs_nil ?_
    obtain ⟨F₁, N₁⟩ := next h₁ hk₁
    refine done h₁ tk₁ ⟨m', ?_⟩ N₁
    have em : (fun y => if y = x then m' y else m y) = m' := by
      funext y
      by_cases hy : y = x
      · rw [if_pos hy]
      · rw [if_neg hy]; exact (hm' y hy).symm
    rw [em]
    exact F₁
end
end
section
noncomputable def seenBy (_ : Params → Frag) (_ : OpenLaw) : Prop := True
noncomputable abbrev top9 (dp un : Nat) (fr : Option (List Env)) (gd : Option (List Code)) : Around := { handled := none, depth := dp, frames := fr, guards := gd, units := un }
structure Kp (s s' : Shared) : Prop where
  keep : ∀ b o, s.heap.get? b = some o → s'.heap.get? b = some o
  gens : s'.gens = s.gens
  drawn : s'.drawn = s.drawn
  os : s'.os = s.os
noncomputable def Post9 (s : Shared) (P : Value → Heap → Prop) (v : Value) (s' : Shared) : Prop := Kp s s' ∧ P v s'.heap
noncomputable def No9 (_ : Value) (_ : Shared) : Prop := False
noncomputable def argM (params : Arguments) (vs : List Value) : Str → Option Value := fun y => ((params.args.map (·.arg)).zip vs).reverse.lookup y
section
variable {w : World} {A : Around} {s : Shared} {mean : ExcName → Option Value} {mg mb : Str → Option Value} {Q E : Value → Shared → Prop} {h₀ : Heap} {L : Addr} {m : Str → Option Value} {news : List (Addr × Obj)}

theorem Kp.of {h : Heap} {tk : Nat} (F : Fr s.heap L h m) : Kp s { s with heap := h, toks := tk } := ⟨F.keep, rfl, rfl, rfl⟩
theorem Kp.eq {s' : Shared} (k : Kp s s') : s' = { s with heap := s'.heap, toks := s'.toks } := by
  obtain ⟨a, b, c, d, e⟩ := s
  obtain ⟨a', b', c', d', e'⟩ := s'
  obtain ⟨k1, k2, k3, k4⟩ := k
  simp only at k2 k3 k4
  subst k2 k3 k4
  rfl
theorem Kp.fr {s' : Shared} (k : Kp s s') (F : Fr h₀ L s.heap m) : Fr h₀ L s'.heap m := ⟨F.ns.keeps k.keep, fun b o e => k.keep b o (F.keep b o e), F.above⟩
theorem Kp.newsK {s' : Shared} (k : Kp s s') (N : News h₀ L s.heap news) : News h₀ L s'.heap news := fun p hp => ⟨k.keep _ _ (N p hp).1, (N p hp).2⟩

theorem enter9 {name qual : Str} {params : Arguments} {body : List Stmt} {scope : Scope} {dV kV doc pm cdv ct oc : Value} {an od : Option Addr} {osl : Array (Option Value)} {f : Addr} {vs : List Value}
    (X : (Kf w.params).In s.heap) (T : Top qv (looseW qv lo) mean mg mb s.heap)
    (ho : (Kf w.params).lookup f = some ⟨oc, od, .func (fnOf name qual params body scope dV kV doc pm an cdv ct), osl⟩) (hcd : codeIn (Kf w.params) cdv qual = true) (hroom : A.depth < recursionLimit)
    (hbind : BindsTo s (fnOf name qual params body scope dV kV doc pm an cdv ct) ⟨vs, []⟩ ((params.args.map (·.arg)).zip vs)) (hloc : (((params.args.map (·.arg)).zip vs).all fun x => decide (scope.names.lookup x.1 = some .local)) = true)
    (hcell : ∀ x ∈ scope.names, x.2 ≠ .cell) (hco : scope.isCoroutine = false) (hgen : scope.isGenerator = false) (hk : scope.kind = .function)
    (h : ∀ L h₁ tk, Fr s.heap L h₁ (argM params vs) → News s.heap L h₁ [] →
      wpAny (model PySem.Challenge.rw_rw0035_01.prog w) (A.deeper (envOf qual scope L f cdv)) (execs body (envOf qual scope L f cdv))
        (fun fl s' => Q (match fl with | .ret v => v | _ => .none) s')
        (fun e s' => wpAny (model PySem.Challenge.rw_rw0035_01.prog w) (A.deeper (envOf qual scope L f cdv)) (leaving (envOf qual scope L f cdv) e) (fun _ s'' => E e s'') E s')
        { s with heap := h₁, toks := tk }) :
    wpAny (model PySem.Challenge.rw_rw0035_01.prog w) A (call (.ref f) vs []) Q E s :=
  wpAny_call (codeAny_call_def (fd := fnOf name qual params body scope dV kV doc pm an cdv ct) (body := body) (binds := (params.args.map (·.arg)).zip vs) hroom (X _ _ ho) rfl T.nolimit (codeRec_of X hcd) rfl hbind hcell (locs hloc)
    (fun h₁ hns hk₁ => h _ h₁ _ ⟨(hns : h₁.Ns _ (argM params vs)), hk₁, Nat.le_refl _⟩ News.nil) hco hgen hk)

theorem useS {f : Addr} {vs : List Value} {x : Str} (C : wpAny (model PySem.Challenge.rw_rw0035_01.prog w) A (call (.ref f) vs []) (Post9 s fun v _ => ∃ t, v = .str x t) No9 s)
    (F : Fr h₀ L s.heap m) (N : News h₀ L s.heap news) (h : ∀ t h' tk', Fr h₀ L h' m → News h₀ L h' news → Q (.str x t) { s with heap := h', toks := tk' }) :
    wpAny (model PySem.Challenge.rw_rw0035_01.prog w) A (call (.ref f) vs []) Q E s :=
  wpAny_mono C (fun v s' ⟨k, t, e⟩ => by rw [k.eq, e]; exact h t _ _ (k.fr F) (k.newsK N)) fun _ _ x => x.elim
end
end
theorem fill_all : seenBy Kf PySem.Challenge.rw_rw0035_01 := by
  k_fill
  trivial
section
local macro_rules | `(tactic| walk_at "m_room") => `(tactic| first | assumption | (dsimp only; omega) | omega | ((try simp only [depth_under_make, depth_under_kw, depth_in1, depth_deeper, depth_caller, units_in1, units_deeper]); omega))
local macro_rules | `(tactic| walk_at "m_in") => `(tactic| (k_dflt (refine' enter9 ?x1 ?x2 ?o1 ?o2 ?o3 ?o4 ?o5 ?o6 ?o7 ?o8 ?o9 ?_; (case x1 | x2 => assumption); (case o1 | o2 => k_is); (case o3 => walk_at "m_room"); (case o4 => exact BindsTo.of_eq rfl); (case o5 => exact rfl); (case o6 => decide); case o7 | o8 | o9 => rfl); intro L h₁ tk F N; try k_fold))
section
noncomputable def mk (l : List Nat) : Str := ⟨l.toArray⟩
noncomputable def sgn (n : Nat) : List Nat := if n < 10 then [48 + n] else if n < 20 then [n + 6] else if n = 20 then [61] else if n = 21 then [40] else if n = 22 then [32] else if n = 23 then [9] else [10]
noncomputable def pce (n : Nat) : List Nat := if n < 10 then [48 + n] else if n < 20 then [61, 49, 38 + n] else if n = 20 then [61, 51, 68] else if n = 21 then [40] else if n = 22 then [32] else [9]
theorem digit_text : ∀ n : Fin 10, Str.ofString (toString ((n.val : Nat) : Int)) = mk (sgn n.val) ∧ Str.ofString (toString ((n.val : Nat) : Int)) = mk (pce n.val) := by decide +kernel
theorem ten_text : ∀ n : Fin 10, Str.ofString "=" ++ Str.ofString (toString ((n.val + 10 : Nat) : Int)) = mk (pce (n.val + 10)) := by decide +kernel
theorem item_text : ∀ n : Fin 5, Txt.item (Str.ofString "=( \t\n") ((n.val : Nat) : Int) = mk (sgn (n.val + 20)) := by decide +kernel
theorem sign_c {w : World} {dp un : Nat} {fr : Option (List Env)} {gd : Option (List Code)} {s : Shared} {mean : ExcName → Option Value} {mg mb : Str → Option Value} (k : Int) (t : Tok)
    (X : (Kf w.params).In s.heap) (T : Top qv (looseW qv lo) mean mg mb s.heap) (hd : dp + 1 < recursionLimit) (hu : un + 8 < cLine) (hk : 0 ≤ k ∧ k < 25) :
    wpAny (model PySem.Challenge.rw_rw0035_01.prog w) (top9 dp un fr gd) (call (.ref 101) [.int k t]) (Post9 s fun v _ => ∃ t', v = .str (mk (sgn k.toNat)) t') No9 s := by
  obtain ⟨n, rfl⟩ : ∃ n : Nat, k = n := ⟨k.toNat, by omega⟩
  walk_at "m_in"
  k_steps
  all_goals (refine ⟨Kp.of (by k_asm), ?_⟩)
  · exact ⟨_, congrArg (Value.str · _) (digit_text ⟨n, by omega⟩).1⟩
  · refine ⟨_, congrArg (Value.str · _) ?_⟩
    have e : sgn n = [n + 6] := by unfold sgn; rw [if_neg (by omega), if_pos (by omega)]
    show (⟨#[((n : Int) + 6).toNat]⟩ : Str) = mk (sgn n)
    rw [e, show ((n : Int) + 6).toNat = n + 6 by omega]
    rfl
  · refine ⟨_, congrArg (Value.str · _) ?_⟩
    have := item_text ⟨n - 20, by omega⟩
    simp only at this
    rw [show ((n - 20 : Nat) : Int) = (n : Int) - 20 by omega, show n - 20 + 20 = n by omega] at this
    exact this
theorem piece_c {w : World} {dp un : Nat} {fr : Option (List Env)} {gd : Option (List Code)} {s : Shared} {mean : ExcName → Option Value} {mg mb : Str → Option Value} (k : Int) (t : Tok)
    (X : (Kf w.params).In s.heap) (T : Top qv (looseW qv lo) mean mg mb s.heap) (hd : dp + 1 < recursionLimit) (hu : un + 8 < cLine) (hk : 0 ≤ k ∧ k < 24) :
    wpAny (model PySem.Challenge.rw_rw0035_01.prog w) (top9 dp un fr gd) (call (.ref 108) [.int k t]) (Post9 s fun v _ => ∃ t', v = .str (mk (pce k.toNat)) t') No9 s := by
  obtain ⟨n, rfl⟩ : ∃ n : Nat, k = n := ⟨k.toNat, by omega⟩
  walk_at "m_in"
  k_steps
  all_goals (refine ⟨Kp.of (by k_asm), ?_⟩)
  · exact ⟨_, congrArg (Value.str · _) (digit_text ⟨n, by omega⟩).2⟩
  · refine ⟨_, congrArg (Value.str · _) ?_⟩
    have := ten_text ⟨n - 10, by omega⟩
    simp only [show n - 10 + 10 = n by omega] at this
    exact this
  · exact ⟨_, congrArg (Value.str · _) (by rw [show n = 20 by omega]; decide +kernel)⟩
  · exact ⟨_, congrArg (Value.str · _) (by rw [show n = 21 by omega]; decide +kernel)⟩
  · exact ⟨_, congrArg (Value.str · _) (by rw [show n = 22 by omega]; decide +kernel)⟩
  · exact ⟨_, congrArg (Value.str · _) (by rw [show n = 23 by omega]; decide +kernel)⟩
theorem quote_c {w : World} {dp un : Nat} {fr : Option (List Env)} {gd : Option (List Code)} {s : Shared} {mean : ExcName → Option Value} {mg mb : Str → Option Value} (n : Nat) (t : Tok)
    (X : (Kf w.params).In s.heap) (T : Top qv (looseW qv lo) mean mg mb s.heap) (hd : dp + 1 < recursionLimit) (hu : un + 8 < cLine) (hk : n = 32 ∨ n = 9) :
    wpAny (model PySem.Challenge.rw_rw0035_01.prog w) (top9 dp un fr gd) (call (.ref 81) [.str (mk [n]) t]) (Post9 s fun v _ => ∃ t', v = .str (mk [61, hx (n / 16), hx (n % 16)]) t') No9 s := by
  walk_at "m_in"
  k_steps
  all_goals (refine ⟨Kp.of (by k_asm), ?_⟩)
  rcases hk with rfl | rfl
  · exact ⟨_, congrArg (Value.str · _) (by decide +kernel)⟩
  · exact ⟨_, congrArg (Value.str · _) (by decide +kernel)⟩
end
section
theorem mk_len (l : List Nat) : (mk l).length = l.length := by show l.toArray.size = _; rw [List.size_toArray]
theorem mk_app (a b : List Nat) : mk a ++ mk b = mk (a ++ b) := by
  apply PySem.Str.ext'
  show a.toArray ++ b.toArray = (a ++ b).toArray
  simp
noncomputable def joinL (sep : List Nat) : List (List Nat) → List Nat
  | [] => []
  | [x] => x
  | x :: y :: rest => x ++ sep ++ joinL sep (y :: rest)
theorem joinS_mk (sep : List Nat) : ∀ ls : List (List Nat), Str.join (mk sep) (ls.map mk) = mk (joinL sep ls)
  | [] => rfl
  | [x] => rfl
  | x :: y :: rest => by
    show mk x ++ mk sep ++ Str.join (mk sep) ((y :: rest).map mk) = _
    rw [joinS_mk sep (y :: rest), mk_app, mk_app]
    rfl
theorem join_mk (sep : List Nat) (ls : List (List Nat)) : Txt.join (mk sep) (ls.map mk) = mk (joinL sep ls) := (PySem.StrLaws.glued_eq_join _ _).trans (joinS_mk sep ls)
theorem joinL_nil : ∀ ls : List (List Nat), joinL [] ls = ls.flatten
  | [] => rfl
  | [x] => by simp [joinL]
  | x :: y :: rest => by
    show x ++ [] ++ joinL [] (y :: rest) = _
    rw [joinL_nil (y :: rest)]
    simp
theorem carried_map {ys : List Value} {ns : List Int} (f : Int → List Nat) (h : CarriedAll ys (ns.map fun k => PyData.str (mk (f k)))) : StrsAre ys (ns.map fun k => mk (f k)) :=
  StrsAre.of_carried (by rw [List.map_map]; exact h)
theorem sum_le_of (f : Int → List Nat) (c : Nat) (hf : ∀ k, (f k).length ≤ c) : ∀ ns : List Int, ((ns.map fun k => mk (f k)).map (·.length)).sum ≤ c * ns.length
  | [] => by simp
  | k :: ns => by
    have ih := sum_le_of f c hf ns
    have h1 := hf k
    simp only [List.map_cons, List.sum_cons, List.length_cons, mk_len]
    rw [Nat.mul_succ]
    omega
theorem empty_mk : Str.ofString "" = mk [] := by decide +kernel
theorem pce_len (n : Nat) : (pce n).length ≤ 3 := by unfold pce; (repeat' split) <;> simp
theorem sgn_len (n : Nat) : (sgn n).length ≤ 3 := by unfold sgn; (repeat' split) <;> simp
theorem joinMap {w : World} {A : Around} {s : Shared} {E Q : Value → Shared → Prop} {h₀ : Heap} {L D : Addr} {news : List (Addr × Obj)} {ys : List Value} {ns : List Int} {f : Int → List Nat} {t : Tok}
    (N : News h₀ L s.heap news) (hm : (D, LCg.lst ys) ∈ news) (hc : CarriedAll ys (ns.map fun k => PyData.str (mk (f k)))) (hf : ∀ k, (f k).length ≤ 3) (hn : ns.length ≤ 1000)
    (h : ∀ t' k, Q (.str (mk (ns.flatMap f)) t') { s with toks := k }) : wpAny (model PySem.Challenge.rw_rw0035_01.prog w) A (call (.builtin "str.join") [.str (Str.ofString "") t, .ref D]) Q E s := by
  have hy := carried_map f hc
  have hs := sum_le_of f 3 hf ns
  refine join_list (items := ys.toArray) (ys := ns.map fun k => mk (f k)) ⟨_, (N _ hm).1, rfl, _, rfl⟩ hy ?_ ?_
  · rw [empty_mk, mk_len, List.length_nil, Nat.mul_zero]
    omega
  · intro t' k
    have e : Txt.join (Str.ofString "") (ns.map fun k => mk (f k)) = mk (ns.flatMap f) := by
      rw [empty_mk, show (ns.map fun k => mk (f k)) = (ns.map f).map mk by rw [List.map_map]; rfl, join_mk, joinL_nil]
      rw [List.flatMap]
    rw [e]
    exact h t' k
theorem eq_mk : Str.ofString "=" = mk [61] := by decide +kernel
section
variable {w : World} {A : Around} {s : Shared} {E Q : Value → Shared → Prop} {x : Str} {n : Nat} {t u : Tok}
theorem add_pce (hs : x.length + 3 ≤ sizeLine) (h : ∀ t' k, (x ++ mk (pce n)).length ≤ x.length + 3 → Q (.str (x ++ mk (pce n)) t') { s with toks := k }) : wpAny (model PySem.Challenge.rw_rw0035_01.prog w) A (binaryOp .Add (.str x t) (.str (mk (pce n)) u)) Q E s :=
  PyProof.Rows.add_str (fun t' k => h t' k (by have := pce_len n; rw [PySem.Str.length_append, mk_len]; omega)) (by have := pce_len n; rw [mk_len]; omega)
theorem iadd_pce (hs : x.length + 3 ≤ sizeLine) (h : ∀ t' k, (x ++ mk (pce n)).length ≤ x.length + 3 → Q (.str (x ++ mk (pce n)) t') { s with toks := k }) : wpAny (model PySem.Challenge.rw_rw0035_01.prog w) A (inplaceOp .Add (.str x t) (.str (mk (pce n)) u)) Q E s :=
  PyProof.Rows.iadd_str (fun t' k => h t' k (by have := pce_len n; rw [PySem.Str.length_append, mk_len]; omega)) (by have := pce_len n; rw [mk_len]; omega)
end
end
section
theorem ints_last : ∀ {vs : List Value} {ns : List Int}, IntsAre vs ns → ns ≠ [] → ∃ t, vs[vs.length - 1]? = some (.int (ns.getLastD 0) t)
  | _, _, .nil, h => absurd rfl h
  | _, _, .cons n t .nil, _ => ⟨t, rfl⟩
  | _, _, .cons n t (.cons (vs := vs) (ns := ns) n' t2 r2), _ => by
    let r : IntsAre _ _ := IntsAre.cons n' t2 r2
    let v := Value.int n t
    let v' := Value.int n' t2
    obtain ⟨t', e⟩ := ints_last r (by simp)
    refine ⟨t', ?_⟩
    have e1 : (v :: v' :: vs).length - 1 = (v' :: vs).length - 1 + 1 := by simp
    have e2 : (n :: n' :: ns).getLastD 0 = (n' :: ns).getLastD 0 := by simp [List.getLastD]
    rw [e1, e2, List.getElem?_cons_succ]
    exact e
theorem last_list {w : World} {A : Around} {s : Shared} {E Q : Value → Shared → Prop} {h₀ : Heap} {L l : Addr} {m : Str → Option Value} {vs : List Value} {ns : List Int} {value slice : Expr} {u : Tok}
    (F : Fr h₀ L s.heap m) (hl : h₀.IsList l vs.toArray) (hi : IntsAre vs ns) (hne : ns ≠ []) (h : ∀ t, Q (.int (ns.getLastD 0) t) s)
    (hs : subscripted slice false (.ref l) (.int (-1) u) = operate [.ref l, .int (-1) u] (getItem (.ref l) (.int (-1) u))) :
    wpAny (model PySem.Challenge.rw_rw0035_01.prog w) A (subscriptTail value slice (.ref l) (.int (-1) u)) Q E s := by
  have hl' : s.heap.IsList l vs.toArray := hl.at fun o e => F.keep l o e
  obtain ⟨t, e⟩ := ints_last hi hne
  have hp : 0 < vs.length := by
    have := hi.length
    have : ns.length ≠ 0 := fun q => hne (List.length_eq_zero_iff.mp q)
    omega
  refine PyProof.Rows.tail_any hl'.typeIs slot_list_getitem.lookup (wpAny_getItem_list_neg hl' (by omega) (by simp only [List.size_toArray]; omega) (by omega) ?_ (h t)) hs
  simp only [List.size_toArray, List.getElem?_toArray]
  rw [show ((-1 : Int) + (vs.length : Int)).toNat = vs.length - 1 by omega]
  exact e
noncomputable def TextsR (s : Shared) (xs : List Str) (v : Value) (h : Heap) : Prop := ∃ r items n, v = .ref r ∧ s.heap.get? r = none ∧ h.get? r = some (W.listOf (List.toArray items) n) ∧ StrsAre items xs
theorem post_texts {s : Shared} {L : Addr} {m : Str → Option Value} {h : Heap} {tk : Nat} {r : Addr} {items : List Value} {n : Nat} {news : List (Addr × Obj)} {ys xs : List Str}
    (F : Fr s.heap L h m) (N : News s.heap L h ((r, { cls := .type "list", data := .seq items.toArray n }) :: news)) (hs : StrsAre items ys) (e : ys = xs) :
    Post9 s (TextsR s xs) (.ref r) { s with heap := h, toks := tk } :=
  ⟨Kp.of F, r, items, n, rfl, (N _ (.head _)).2.2, (N _ (.head _)).1, e ▸ hs⟩
theorem post_app1 {s : Shared} {L : Addr} {m : Str → Option Value} {h : Heap} {tk : Nat} {r : Addr} {vs : List Value} {n : Nat} {news : List (Addr × Obj)} {ys xs : List Str} {a : Str} {ta : Tok}
    (F : Fr s.heap L h m) (N : News s.heap L h ((r, { cls := .type "list", data := .seq (vs.toArray.toList ++ #[Value.str a ta].toList).toArray n }) :: news)) (hs : StrsAre vs ys) (e : ys ++ [a] = xs) :
    Post9 s (TextsR s xs) (.ref r) { s with heap := h, toks := tk } := post_texts F N (PyProof.Rows.StrsAre.append' hs (.cons _ _ .nil)) e
theorem post_app2 {s : Shared} {L : Addr} {m : Str → Option Value} {h : Heap} {tk : Nat} {r : Addr} {vs : List Value} {n : Nat} {news : List (Addr × Obj)} {ys xs : List Str} {a b : Str} {ta tb : Tok}
    (F : Fr s.heap L h m) (N : News s.heap L h ((r, { cls := .type "list", data := .seq (vs.toArray.toList ++ #[Value.str a ta, Value.str b tb].toList).toArray n }) :: news)) (hs : StrsAre vs ys) (e : ys ++ [a, b] = xs) :
    Post9 s (TextsR s xs) (.ref r) { s with heap := h, toks := tk } := post_texts F N (PyProof.Rows.StrsAre.append' hs (.cons _ _ (.cons _ _ .nil))) e
structure Hid9 (p : Prop) : Prop where
  out : p
inductive Heard where
  | reply | proto | value | peer (n : Int)
end
section
section
variable {w : World} {A₀ A : Around} {s : Shared} {base h₀ : Heap} {outer : List Env} {L a : Addr} {m : Str → Option Value} {cn : Str} {cs : Scope} {ccd : Value} {news : List (Addr × Obj)} {mean : ExcName → Option Value} {mg mb : Str → Option Value}
    {R : Result → Shared → Prop} {name qual : Str} {params : Arguments} {body : List Stmt} {scope : Scope} {dV kV doc pm cdv ct oc : Value} {an od : Option Addr} {osl : Array (Option Value)} {f : Addr} {args : Args} {binds : List (Str × Value)}

theorem inP (B : Below A₀ base outer h₀) (F : Fr h₀ L s.heap m) (X₀ : (Kf w.params).In h₀) (N : News h₀ L s.heap news) (T : Top qv (looseW qv lo) mean mg mb h₀) (hA : A.frames = some (envOf cn cs L a ccd :: outer)) (hke : cs.kind = .function)
    (ho : (Kf w.params).lookup f = some ⟨oc, od, .func (fnOf name qual params body scope dV kV doc pm an cdv ct), osl⟩) (hcd : codeIn (Kf w.params) cdv qual = true) (hroom : A.depth < recursionLimit)
    (hbind : BindsTo s (fnOf name qual params body scope dV kV doc pm an cdv ct) args binds) (hloc : ∀ y ∈ binds, scope.names.lookup y.1 = some .local)
    (h : ∀ g L' h₁, Fr h₀ L g m → Fr g L' h₁ (fun y => binds.reverse.lookup y) → News g L' h₁ news → Below A base (envOf cn cs L a ccd :: outer) g → (Kf w.params).In g → Top qv (looseW qv lo) mean mg mb g →
      wpP (model PySem.Challenge.rw_rw0035_01.prog w) (A.deeper (envOf qual scope L' f cdv)) (execs body (envOf qual scope L' f cdv))
        (fun fl s' => LeaveK h₀ L m g R (match fl with | .ret v => v | _ => .none) s')
        (fun e s' => wpAny (model PySem.Challenge.rw_rw0035_01.prog w) (A.deeper (envOf qual scope L' f cdv)) (leaving (envOf qual scope L' f cdv) e) (fun _ s'' => R (.error e) s'') (fun e' s'' => R (.error e') s'') s')
        { s with heap := h₁, toks := s.toks + binds.length })
    (hco : scope.isCoroutine = false) (hgen : scope.isGenerator = false) (hk : scope.kind = .function)
    (hcell : ∀ x ∈ scope.names, x.2 ≠ .cell) : codeP (model PySem.Challenge.rw_rw0035_01.prog w) A (.call (.ref f) args) R s := by
  have X := X₀.keeps F.keep
  obtain ⟨FG, BG, st, lv⟩ := groundX (R := R) B F N hA (env := envOf cn cs L a ccd) rfl hke
  refine codeP_call_def (fd := fnOf name qual params body scope dV kV doc pm an cdv ct) (body := body) (binds := binds) hroom (X _ _ ho) rfl (T.nolimit.keeps F.keep) (codeRec_of X hcd) rfl hbind hcell hloc (fun h₁ hns hk₁ => ?_) hco hgen hk
  exact wpP_mono (h _ s.heap.objs.size h₁ FG ⟨hns, fun b o e => hk₁ b o (of_hideAll _ e), Nat.le_of_eq (hideAll_size _ _)⟩
    (fun p hp => ⟨hk₁ _ _ (N p hp).1, Nat.ne_of_lt (Heap.lt_size (N p hp).1), hideAll_none _ (List.mem_map_of_mem hp)⟩) BG (X₀.keeps st) (T.keeps st)) (fun fl s' hl => lv _ _ hl) fun _ _ y => y

theorem inS0P (B : Below A₀ base [] h₀) (F : Fr h₀ L s.heap m) (X₀ : (Kf w.params).In h₀) (N : News h₀ L s.heap news) (T : Top qv (looseW qv lo) mean mg mb h₀) (hA : A.frames = some [envOf cn cs L a ccd])
    (ho : (Kf w.params).lookup f = some ⟨oc, od, .func (fnOf name qual params body scope dV kV doc pm an cdv ct), osl⟩) (hcd : codeIn (Kf w.params) cdv qual = true) (hroom : A.depth < recursionLimit)
    (hbind : BindsTo s (fnOf name qual params body scope dV kV doc pm an cdv ct) args binds) (hloc : ∀ y ∈ binds, scope.names.lookup y.1 = some .local)
    (h : ∀ g L' h₁, Fr h₀ L g m → Fr g L' h₁ (fun y => binds.reverse.lookup y) → News g L' h₁ news → Below A base [envOf cn cs L a ccd] g → (Kf w.params).In g → Top qv (looseW qv lo) mean mg mb g → KtsDicts ([envOf cn cs L a ccd].filterMap (·.frame)) g →
      wpP (model PySem.Challenge.rw_rw0035_01.prog w) (A.deeper (envOf qual scope L' f cdv)) (execs body (envOf qual scope L' f cdv))
        (fun fl s' => LeaveS0 ([envOf cn cs L a ccd].filterMap (·.frame)) h₀ L m g R (match fl with | .ret v => v | _ => .none) s')
        (fun e s' => wpAny (model PySem.Challenge.rw_rw0035_01.prog w) (A.deeper (envOf qual scope L' f cdv)) (leaving (envOf qual scope L' f cdv) e) (fun _ s'' => R (.error e) s'') (fun e' s'' => R (.error e') s'') s')
        { s with heap := h₁, toks := s.toks + binds.length })
    (hck : cs.kind = .function) (hco : scope.isCoroutine = false) (hgen : scope.isGenerator = false) (hk : scope.kind = .function)
    (hcell : ∀ x ∈ scope.names, x.2 ≠ .cell) : codeP (model PySem.Challenge.rw_rw0035_01.prog w) A (.call (.ref f) args) R s := by
  have X := X₀.keeps F.keep
  refine codeP_call_def (fd := fnOf name qual params body scope dV kV doc pm an cdv ct) (body := body) (binds := binds) hroom (X _ _ ho) rfl (T.nolimit.keeps F.keep) (codeRec_of X hcd) rfl hbind hcell hloc (fun h₁ hns hk₁ => ?_) hco hgen hk
  obtain ⟨oL, es, ep, hLg, hLd, hN, hNs, st, B₂⟩ := kts_enter B F N hA hck
  refine wpP_mono (h _ s.heap.objs.size h₁ ⟨hN _ hLg, st, F.above⟩ ⟨hns, fun b o e => hk₁ b o (of_hideAll _ e), Nat.le_of_eq (hideAll_size _ _)⟩
    (fun p hp => ⟨hk₁ _ _ (N p hp).1, Nat.ne_of_lt (Heap.lt_size (N p hp).1), hideAll_none _ (List.mem_map_of_mem hp)⟩) B₂ (X₀.keeps st) (T.keeps st) (fun b hb => by
      rcases kts_mem hb with rfl | z
      · exact ⟨oL, es, ep, hLg, hLd⟩
      · simp at z)) (fun fl s' hl => ?_) fun _ _ y => y
  obtain ⟨g', L', m', news', T', F', N', k⟩ := hl
  have nL₀ : h₀.get? L = none := kts_self F
  obtain ⟨sl, hs⟩ := T'.up hLg
  refine k ⟨hNs sl _ (F'.keep _ _ hs), fun b o e => F'.keep b o (T'.other b o (st b o e) (fun q => by
    rcases kts_mem q with z | z
    · rw [z, nL₀] at e
      cases e
    · simp at z)), F.above⟩ fun p hp => ⟨(N' p hp).1, fun q => ?_, ?_⟩
  · have := (N' p hp).2.2; rw [q, hs] at this; cases this
  · cases q : h₀.get? p.1 with
    | none => rfl
    | some o =>
      obtain ⟨sl', hs'⟩ := T'.up (st _ _ q)
      have := (N' p hp).2.2
      rw [hs'] at this
      cases this
end
end
section
theorem find_fact {x : Str} (h : ¬ Txt.find x (Str.ofString "(") < 0) : 0 ≤ Txt.find x (Str.ofString "(") ∧ Txt.find x (Str.ofString "(") < (x.length : Int) := by
  rcases find_spec x (Str.ofString "(") with e | ⟨i, e, h1, _⟩
  · rw [e] at h; omega
  · have hl : (Str.ofString "(").length = 1 := by decide +kernel
    rw [e]
    omega
theorem par41 : Str.ofString ")" = ⟨#[41]⟩ := by decide +kernel
theorem find3_fact {x : Str} {i : Int} (h : ¬ Txt.find3 x (Str.ofString ")") i < 0) (h0 : 0 ≤ i) (h1 : i ≤ (x.length : Int)) : i ≤ Txt.find3 x (Str.ofString ")") i ∧ Txt.find3 x (Str.ofString ")") i < (x.length : Int) := by
  rw [par41] at h ⊢
  rcases PySem.StrLaws.find3_spec x 41 i with ⟨e, _⟩ | ⟨k, e, h2, h3, _⟩
  · rw [e] at h; omega
  · rw [e]
    have e2 : PySem.fromIndex x.length i = i.toNat := by
      unfold PySem.fromIndex
      rw [if_neg (by omega)]
      omega
    rw [e2] at h2
    omega
end
section
section
variable {w : World} {A : Around} {s : Shared} {Q E : Value → Shared → Prop} {h₀ : Heap} {L D a b c d : Addr} {news : List (Addr × Obj)} {value slice : Expr} {k : Int} {u : Tok} {n na nb nc nd : Nat} {va vb vc vd : List Value} {ka kb kc kd : List Int}
theorem item16 (N : News h₀ L s.heap news) (hm : (D, W.listOf #[.ref a, .ref a, .ref a, .ref a, .ref a, .ref a, .ref a, .ref a, .ref a, .ref a, .ref a, .ref a, .ref a, .ref b, .ref c, .ref d] n) ∈ news) (hk : 0 ≤ k ∧ k < 16)
    (ha : (a, W.listOf (List.toArray va) na) ∈ news) (hb : (b, W.listOf (List.toArray vb) nb) ∈ news) (hc : (c, W.listOf (List.toArray vc) nc) ∈ news) (hd : (d, W.listOf (List.toArray vd) nd) ∈ news)
    (ia : IntsAre va ka) (ib : IntsAre vb kb) (ic : IntsAre vc kc) (id : IntsAre vd kd)
    (h : ∀ C vs m cs, News h₀ L s.heap ((C, W.listOf (List.toArray vs) m) :: news) → IntsAre vs cs → cs = (if k < 13 then ka else if k = 13 then kb else if k = 14 then kc else kd) → Q (.ref C) s)
    (hs : subscripted slice false (.ref D) (.int k u) = operate [.ref D, .int k u] (getItem (.ref D) (.int k u)) := by with_unfolding_all rfl) :
    wpAny (model PySem.Challenge.rw_rw0035_01.prog w) A (subscriptTail value slice (.ref D) (.int k u)) Q E s := by
  have hl : s.heap.IsList D #[.ref a, .ref a, .ref a, .ref a, .ref a, .ref a, .ref a, .ref a, .ref a, .ref a, .ref a, .ref a, .ref a, .ref b, .ref c, .ref d] := ⟨_, (N _ hm).1, rfl, n, rfl⟩
  have more : ∀ {x o}, (x, o) ∈ news → News h₀ L s.heap ((x, o) :: news) := fun hx p hp => by
    rcases List.mem_cons.mp hp with rfl | hp
    · exact N _ hx
    · exact N _ hp
  obtain ⟨j, rfl⟩ : ∃ j : Nat, k = j := ⟨k.toNat, by omega⟩
  have hj : j < 16 := by omega
  by_cases h1 : j < 13
  · refine PyProof.Rows.tail_any hl.typeIs slot_list_getitem.lookup (wpAny_getItem_list (x := .ref a) hl hk.1 (by omega) ?_ (h a va na ka (more ha) ia (by rw [if_pos (by omega)]))) hs
    rw [Int.toNat_natCast]
    clear hs h hl hm
    match j, h1 with
    | 0, _ => rfl
    | 1, _ => rfl
    | 2, _ => rfl
    | 3, _ => rfl
    | 4, _ => rfl
    | 5, _ => rfl
    | 6, _ => rfl
    | 7, _ => rfl
    | 8, _ => rfl
    | 9, _ => rfl
    | 10, _ => rfl
    | 11, _ => rfl
    | 12, _ => rfl
    | i + 13, q => exact absurd q (Nat.not_lt.mpr (Nat.le_add_left 13 i))
  · (have : j = 13 ∨ j = 14 ∨ j = 15 := by omega)
    rcases this with rfl | rfl | rfl
    · exact PyProof.Rows.tail_any hl.typeIs slot_list_getitem.lookup (wpAny_getItem_list (x := .ref b) hl hk.1 (by omega) rfl (h b vb nb kb (more hb) ib rfl)) hs
    · exact PyProof.Rows.tail_any hl.typeIs slot_list_getitem.lookup (wpAny_getItem_list (x := .ref c) hl hk.1 (by omega) rfl (h c vc nc kc (more hc) ic rfl)) hs
    · exact PyProof.Rows.tail_any hl.typeIs slot_list_getitem.lookup (wpAny_getItem_list (x := .ref d) hl hk.1 (by omega) rfl (h d vd nd kd (more hd) id rfl)) hs
theorem item3 (N : News h₀ L s.heap news) (hm : (D, W.listOf #[.ref a, .ref b, .ref c] n) ∈ news) (hk : 0 ≤ k ∧ k < 3)
    (ha : (a, W.listOf (List.toArray va) na) ∈ news) (hb : (b, W.listOf (List.toArray vb) nb) ∈ news) (hc : (c, W.listOf (List.toArray vc) nc) ∈ news)
    (ia : IntsAre va ka) (ib : IntsAre vb kb) (ic : IntsAre vc kc)
    (h : ∀ C vs m cs, News h₀ L s.heap ((C, W.listOf (List.toArray vs) m) :: news) → IntsAre vs cs → cs = (if k = 0 then ka else if k = 1 then kb else kc) → Q (.ref C) s)
    (hs : subscripted slice false (.ref D) (.int k u) = operate [.ref D, .int k u] (getItem (.ref D) (.int k u)) := by with_unfolding_all rfl) :
    wpAny (model PySem.Challenge.rw_rw0035_01.prog w) A (subscriptTail value slice (.ref D) (.int k u)) Q E s := by
  have hl : s.heap.IsList D #[.ref a, .ref b, .ref c] := ⟨_, (N _ hm).1, rfl, n, rfl⟩
  have more : ∀ {x o}, (x, o) ∈ news → News h₀ L s.heap ((x, o) :: news) := fun hx p hp => by
    rcases List.mem_cons.mp hp with rfl | hp
    · exact N _ hx
    · exact N _ hp
  obtain ⟨j, rfl⟩ : ∃ j : Nat, k = j := ⟨k.toNat, by omega⟩
  (have : j = 0 ∨ j = 1 ∨ j = 2 := by omega)
  rcases this with rfl | rfl | rfl
  · exact PyProof.Rows.tail_any hl.typeIs slot_list_getitem.lookup (wpAny_getItem_list (x := .ref a) hl hk.1 (by omega) rfl (h a va na ka (more ha) ia rfl)) hs
  · exact PyProof.Rows.tail_any hl.typeIs slot_list_getitem.lookup (wpAny_getItem_list (x := .ref b) hl hk.1 (by omega) rfl (h b vb nb kb (more hb) ib rfl)) hs
  · exact PyProof.Rows.tail_any hl.typeIs slot_list_getitem.lookup (wpAny_getItem_list (x := .ref c) hl hk.1 (by omega) rfl (h c vc nc kc (more hc) ic rfl)) hs
end
end
section
section
variable {w : World} {A : Around} {s : Shared} {mean : ExcName → Option Value} {mg mb : Str → Option Value} {Q E : Value → Shared → Prop}
theorem enter9c {name qual : Str} {params : Arguments} {body : List Stmt} {scope : Scope} {dV kV doc pm cdv ct oc : Value} {an od : Option Addr} {osl : Array (Option Value)} {f : Addr} {vs : List Value}
    (X : (Kf w.params).In s.heap) (T : Top qv (looseW qv lo) mean mg mb s.heap)
    (ho : (Kf w.params).lookup f = some ⟨oc, od, .func (fnOf name qual params body scope dV kV doc pm an cdv ct), osl⟩) (hcd : codeIn (Kf w.params) cdv qual = true) (hroom : A.depth < recursionLimit)
    (hbind : BindsTo s (fnOf name qual params body scope dV kV doc pm an cdv ct) ⟨vs, []⟩ ((params.args.map (·.arg)).zip vs)) (hkind : (((params.args.map (·.arg)).zip vs).all fun y => scope.names.lookup y.1 == some .local || scope.names.lookup y.1 == some .cell) = true)
    (hnd : ((cellsFrom 0 scope.names []).map (·.1)).Nodup) (hco : scope.isCoroutine = false) (hgen : scope.isGenerator = false) (hk : scope.kind = .function)
    (h : ∀ L h₁ tk cells, Fr s.heap L h₁ (bindL (envOfC qual scope L f cdv).kindOf ((params.args.map (·.arg)).zip vs) fun _ => none) → News s.heap L h₁ cells →
      CellsAre (bindC (envOfC qual scope L f cdv).kindOf ((params.args.map (·.arg)).zip vs) fun _ => none) (cellsFrom (L + 1) scope.names []) cells →
      wpAny (model PySem.Challenge.rw_rw0035_01.prog w) (A.deeper (envOfC qual scope L f cdv)) (execs body (envOfC qual scope L f cdv))
        (fun fl s' => Q (match fl with | .ret v => v | _ => .none) s')
        (fun e s' => wpAny (model PySem.Challenge.rw_rw0035_01.prog w) (A.deeper (envOfC qual scope L f cdv)) (leaving (envOfC qual scope L f cdv) e) (fun _ s'' => E e s'') E s')
        { s with heap := h₁, toks := tk }) :
    wpAny (model PySem.Challenge.rw_rw0035_01.prog w) A (call (.ref f) vs []) Q E s := by
  refine wpAny_call ?_
  refine codeAny_call_function (fd := fnOf name qual params body scope dV kV doc pm an cdv ct) hroom (X _ _ ho) rfl hco hgen rfl (codeRec_of X hcd) (hbind _ _ _ _ ?_)
  refine wpAny_newFunctionEnv_cells hk (kindsX hkind _) fun env' he s' x => ?_
  subst he
  refine ⟨T.nolimit.keeps x.toInCall.keep, codeAny_func ?_⟩
  obtain ⟨h₁, tk, rfl, _⟩ := x.done
  obtain ⟨cells, NC, Y⟩ := Cl.news (h₀ := s.heap) (Nat.le_refl _) fun n c hm => ⟨x.cell n c (lookup_of_mem_nodup (cellsFrom_names scope.names 0 (s.heap.objs.size + 1) [] [] rfl ▸ hnd) hm), x.above n c hm⟩
  exact h s.heap.objs.size h₁ tk cells ⟨x.toInCall.ns, x.toInCall.keep, Nat.le_refl _⟩ NC Y
end
noncomputable abbrev plcS (x : Str) : List Int := List.foldl (fun l' k' => if (1 ≤ (Txt.item x k').length ∧ (Txt.item x k').length ≤ 1) ∧ (1 ≤ (Txt.item x 0).length ∧ (Txt.item x 0).length ≤ 1) ∧ Txt.item x k' = Txt.item x 0 then l' ++ [k'] else if (1 ≤ (Txt.item x k').length ∧ (Txt.item x k').length ≤ 1) ∧ (1 ≤ (Txt.item x 0).length ∧ (Txt.item x 0).length ≤ 1) ∧ ¬Txt.item x k' = Txt.item x 0 then l' else l') [] (rangeKs 0 ((x.length : Int) - 0).toNat)
noncomputable abbrev figS (x : Str) : Str := Txt.strip (Txt.slice x (some ((plcS x).getD (Int.toNat 2) 0 + 1)) (some ((plcS x).getD (Int.toNat 3) 0)))
noncomputable abbrev badS (f : Str) : List Str := List.filter (fun a => !!(Builtin.Str.occurrences (Str.ofString "0123456789") a 0 (Str.ofString "0123456789").length 1).isEmpty) (signs f)
noncomputable def valF (pre : List Int) : Int := pre.foldl (fun a c => a * 10 + c - 48) 0
theorem valF_nil : (0 : Int) = valF [] := rfl
theorem valF_next {pre : List Int} {a c : Int} (h : a = valF pre) : a * 10 + c - 48 = valF (pre ++ [c]) := by subst h; unfold valF; rw [List.foldl_append]; rfl
noncomputable def readS (x : Str) : Heard :=
  if ((plcS x).length : Int) = 4 then
    if (plcS x).getD (Int.toNat 3) 0 = (x.length : Int) - 1 then
      if (figS x == Str.ofString "") = true then .value
      else if badS (figS x) = [] then .peer (valF (KStt.codes (figS x)))
      else .value
    else .proto
  else .proto
noncomputable def DueIs (s : Shared) : Heard → Value → Heap → Prop
  | .reply, v, _ => ∃ t, v = .str (Str.ofString "reply") t
  | .proto, v, _ => ∃ t, v = .str (Str.ofString "proto") t
  | .value, v, _ => ∃ t, v = .str (Str.ofString "value") t
  | .peer n, v, h => ∃ D t u, v = .ref D ∧ s.heap.get? D = none ∧ h.get? D = some { cls := .type "tuple", data := .seq #[.str (Str.ofString "peer") t, .int n u] }
theorem due_of {s : Shared} {r r' : Heard} {v : Value} {h : Heap} (e : r = r') (k : DueIs s r' v h) : DueIs s r v h := e ▸ k
section
variable {x : Str}
theorem rd1 (a : ((plcS x).length : Int) ≠ 4) : readS x = .proto := by unfold readS; rw [if_neg a]
theorem rd2 (a : ((plcS x).length : Int) = 4) (b : (plcS x).getD (Int.toNat 3) 0 ≠ (x.length : Int) - 1) : readS x = .proto := by unfold readS; rw [if_pos a, if_neg b]
theorem rd3 (a : ((plcS x).length : Int) = 4) (b : (plcS x).getD (Int.toNat 3) 0 = (x.length : Int) - 1) (c : (figS x == Str.ofString "") = true) : readS x = .value := by unfold readS; rw [if_pos a, if_pos b, if_pos c]
theorem rd4 (a : ((plcS x).length : Int) = 4) (b : (plcS x).getD (Int.toNat 3) 0 = (x.length : Int) - 1) (c : (figS x == Str.ofString "") = false) (d : badS (figS x) = []) : readS x = .peer (valF (KStt.codes (figS x))) := by unfold readS; rw [if_pos a, if_pos b, if_neg (by rw [c]; exact Bool.false_ne_true), if_pos d]
theorem rd5 (a : ((plcS x).length : Int) = 4) (b : (plcS x).getD (Int.toNat 3) 0 = (x.length : Int) - 1) (c : (figS x == Str.ofString "") = false) (d : ¬ badS (figS x) = []) : readS x = .value := by unfold readS; rw [if_pos a, if_pos b, if_neg (by rw [c]; exact Bool.false_ne_true), if_neg d]
end
local macro_rules | `(tactic| walk_at "compareOp NotEq ref ref") => `(tactic| (k_here; (with_reducible show wpAny _ _ (compareOp CmpOp.NotEq (Value.ref _) (Value.ref _)) _ _ _); (with_reducible rename (∀ c ∈ Array.toList _, c < 256) => hc9); (with_reducible rename CarriedAll _ _ => hC9); k_dflt (refine' NT.ne_nilN ?k1 ?k2 ?k3 hC9 (NT.figs_ok hc9 _ _ _) ?k5 ?_; (case k1 => k_asm); (case k2 | k3 => k_mem); (case k5 => walk_at "m_room"); k_whole)))
theorem read_c {w : World} {dp un : Nat} {fr : Option (List Env)} {gd : Option (List Code)} {s : Shared} {mean : ExcName → Option Value} {mg mb : Str → Option Value} (x : Str) (t : Tok)
    (X : (Kf w.params).In s.heap) (T : Top qv (looseW qv lo) mean mg mb s.heap) (hd : dp + 4 < recursionLimit) (hu : un + 80 < cLine)
    (hlen : x.length ≤ 100) (hx : ∀ c ∈ x.cps.toList, c < 256) :
    wpAny (model PySem.Challenge.rw_rw0035_01.prog w) (top9 dp un fr gd) (call (.ref 118) [.str x t]) (Post9 s (DueIs s (readS x))) No9 s := by
  (k_dflt (refine' enter9c ?x1 ?x2 ?o1 ?o2 ?o3 ?o4 ?o5 ?o6 ?o7 ?o8 ?o9 ?_; (case x1 => assumption); (case x2 => assumption); (case o1 => k_is); (case o2 => k_is); (case o3 => walk_at "m_room"); (case o4 => exact BindsTo.of_eq rfl); (case o5 => exact rfl); (case o6 => decide +kernel); (case o7 => rfl); (case o8 => rfl); (case o9 => rfl)); intro L h₁ tk cells F N Y; k_cells Y; (try k_fold))
  k_with_none
  k_with "state" => first | (with_reducible exact valF_nil) | (with_reducible exact valF_next (by with_reducible assumption))
  k_with "pyIter str" => k_state (fun pre port => port = valF pre) "port"
  k_steps
  all_goals dsimp only
  all_goals (with_reducible rename Fr _ _ _ _ => F9)
  all_goals (with_reducible rename News _ _ _ _ => N9)
  · exact ⟨Kp.of F9, due_of (rd1 (by with_reducible assumption)) ⟨_, rfl⟩⟩
  · exact ⟨Kp.of F9, due_of (rd2 (by with_reducible assumption) (by with_reducible assumption)) ⟨_, rfl⟩⟩
  · exact ⟨Kp.of F9, due_of (rd3 (by with_reducible assumption) (by with_reducible assumption) (by with_reducible assumption)) ⟨_, rfl⟩⟩
  · show Post9 s (DueIs s (readS x)) (Value.ref _) _
    with_reducible rename _ = valF _ => hV
    rw [hV] at N9
    exact ⟨Kp.of F9, due_of (rd4 (by with_reducible assumption) (by with_reducible assumption) (by with_reducible assumption) (by with_reducible assumption)) ⟨_, _, _, rfl, (N9 _ (.head _)).2.2, (N9 _ (.head _)).1⟩⟩
  · exact ⟨Kp.of F9, due_of (rd5 (by with_reducible assumption) (by with_reducible assumption) (by with_reducible assumption) (by with_reducible assumption)) ⟨_, rfl⟩⟩
end
section
local macro_rules | `(tactic| walk_at "m_fact") => `(tactic| first | assumption | omega | ((with_reducible rename (∀ n ∈ _, (0 : Int) ≤ n ∧ n < _) => hR9); exact hR9 _ (by assumption)))
local macro_rules | `(tactic| walk_at "m_use") => `(tactic| ((case F | F2 => k_asm); (case X | T => assumption); (case N => k_asm); (case d | u => walk_at "m_room"); case k => walk_at "m_fact"))
local macro_rules | `(tactic| walk_at "call ref") => `(tactic| ((with_reducible show wpAny _ _ (call (Value.ref 101) [Value.int _ _] []) _ _ _); k_dflt (refine' useS (sign_c _ _ (Frag.In.keeps ?X (Fr.keep ?F)) (Top.keeps ?T (Fr.keep ?F)) ?d ?u ?k) ?F2 ?N ?_; walk_at "m_use"); intro t' h' tk' F' N'))
local macro_rules | `(tactic| walk_at "call ref") => `(tactic| ((with_reducible show wpAny _ _ (call (Value.ref 108) [Value.int _ _] []) _ _ _); k_dflt (refine' useS (piece_c _ _ (Frag.In.keeps ?X (Fr.keep ?F)) (Top.keeps ?T (Fr.keep ?F)) ?d ?u ?k) ?F2 ?N ?_; walk_at "m_use"); intro t' h' tk' F' N'))
local macro_rules | `(tactic| walk_at "call builtin:str.join") => `(tactic| ((with_reducible show wpAny _ _ (call (Value.builtin "str.join") [Value.str _ _, Value.ref _]) _ _ _); (with_reducible rename CarriedAll _ _ => hC9); (refine' joinMap ?N ?hm hC9 ?hf ?hn ?_; (case N => k_asm); (case hm => k_mem); (case hf => first | (intro _; exact pce_len _) | (intro _; exact sgn_len _)); case hn => omega); intro t9 k9))
local macro_rules | `(tactic| walk_at "m_size") => `(tactic| first | omega | ((try simp only [mk_len, PySem.Str.length_append, List.length_append, List.length_cons, List.length_nil, ge_iff_le, Int.not_le]); omega))
local macro_rules | `(tactic| walk_at "call builtin:len") => `(tactic| ((with_reducible show wpAny _ _ (call (Value.builtin "len") [Value.str _ _]) _ _ _); refine' len_str ?hf ?_; case hf => walk_at "m_size"))
local macro_rules | `(tactic| walk_at "m_line") => `(tactic| ((try simp only [eq_mk, empty_mk, mk_len, PySem.Str.length_append, List.length_append, List.length_cons, List.length_nil]); rw [PySem.sizeLine_eq]; omega))
local macro_rules | `(tactic| walk_at "binaryOp Add str str") => `(tactic| ((with_reducible show wpAny _ _ (binaryOp Operator.Add (Value.str _ _) (Value.str (mk (pce _)) _)) _ _ _); (refine' add_pce ?hs ?_; case hs => walk_at "m_line"); intro t9 k9 hb9))
local macro_rules | `(tactic| walk_at "inplaceOp Add str str") => `(tactic| ((with_reducible show wpAny _ _ (inplaceOp Operator.Add (Value.str _ _) (Value.str (mk (pce _)) _)) _ _ _); (refine' iadd_pce ?hs ?_; case hs => walk_at "m_line"); intro t9 k9 hb9))
local macro_rules | `(tactic| walk_at "subscriptTail") => `(tactic| ((with_reducible show wpAny _ _ (subscriptTail _ _ (Value.ref _) (Value.int (-1) _)) _ _ _); k_dflt (refine' last_list ?F ?hl ?hi ?hne ?_ ?hs; (case F => k_asm); (case hl | hi => assumption); (case hne => first | assumption | exact of_decide_eq_false (by assumption)); case hs => with_unfolding_all rfl); intro t9))
section
theorem pcS_len (k : Int) : (mk (pce k.toNat)).length ≤ 3 := by rw [mk_len]; exact pce_len _
noncomputable def stepS (wd : Int) (st : List Str × Str × Int) (k : Int) : List Str × Str × Int :=
  if wd < st.2.2 ∧ wd ≤ ((st.2.1 ++ mk (pce k.toNat)).length : Int) then (st.1 ++ [st.2.1 ++ Str.ofString "="], Str.ofString "" ++ mk (pce k.toNat), st.2.2 - (st.2.1.length : Int)) else (st.1, st.2.1 ++ mk (pce k.toNat), st.2.2)
noncomputable def runS (wd : Int) (l0 : Int) (ns : List Int) : List Str × Str × Int := ns.foldl (stepS wd) ([], Str.ofString "", l0)
theorem runS_snoc (wd l0 : Int) (pre : List Int) (k : Int) : runS wd l0 (pre ++ [k]) = stepS wd (runS wd l0 pre) k := by unfold runS; rw [List.foldl_append]; rfl
theorem runS_cut {wd l0 left k : Int} {pre : List Int} {rows : List Str} {row : Str} (h : runS wd l0 pre = (rows, row, left)) (a : wd < left) (b : wd ≤ ((row ++ mk (pce k.toNat)).length : Int)) :
    runS wd l0 (pre ++ [k]) = (rows ++ [row ++ Str.ofString "="], Str.ofString "" ++ mk (pce k.toNat), left - (row.length : Int)) := by rw [runS_snoc, h]; unfold stepS; rw [if_pos ⟨a, b⟩]
theorem runS_on {wd l0 left k : Int} {pre : List Int} {rows : List Str} {row : Str} (h : runS wd l0 pre = (rows, row, left)) (a : ¬ (wd < left ∧ wd ≤ ((row ++ mk (pce k.toNat)).length : Int))) :
    runS wd l0 (pre ++ [k]) = (rows, row ++ mk (pce k.toNat), left) := by rw [runS_snoc, h]; unfold stepS; rw [if_neg a]
theorem flat_len (f : Int → List Nat) (hf : ∀ k, (f k).length ≤ 3) : ∀ ns : List Int, (ns.flatMap f).length ≤ 3 * ns.length
  | [] => by simp
  | k :: ns => by
    have := flat_len f hf ns
    have := hf k
    simp only [List.flatMap_cons, List.length_append, List.length_cons]
    omega
noncomputable def finR (wd : Int) (ns : List Int) (rows : List Str) (row : Str) : List Str :=
  if ns = [] ∨ ([22, 23].any fun x => x == ns.getLastD 0) = false then rows ++ [row]
  else if (row.length : Int) = wd - 1 then rows ++ [row ++ Str.ofString "=", Str.ofString ""]
  else if (row.length : Int) = wd then rows ++ [Txt.slice row none (some (-1)) ++ Str.ofString "=", if ns.getLastD 0 = 22 then Str.ofString "=20" else Str.ofString "=09"]
  else rows ++ [Txt.slice row none (some (-1)) ++ if ns.getLastD 0 = 22 then Str.ofString "=20" else Str.ofString "=09"]
noncomputable def rowsS (wd : Int) (ns : List Int) : List Str := finR wd ns (runS wd ((mk (ns.flatMap fun k => pce k.toNat)).length : Int) ns).1 (runS wd ((mk (ns.flatMap fun k => pce k.toNat)).length : Int) ns).2.1
theorem rowsS_of {wd left : Int} {ns : List Int} {rows : List Str} {row : Str} (h : runS wd ((mk (ns.flatMap fun k => pce k.toNat)).length : Int) ns = (rows, row, left)) {x : List Str} (e : x = finR wd ns rows row) : x = rowsS wd ns := by
  unfold rowsS; rw [h]; exact e
section
variable {wd : Int} {ns : List Int} {rows : List Str} {row : Str}
theorem fin1 (a : decide (ns = []) = true) : rows ++ [row] = finR wd ns rows row := by unfold finR; rw [if_pos (.inl (of_decide_eq_true a))]
theorem fin2 (a : ([22, 23].any fun x => x == ns.getLastD 0) = false) : rows ++ [row] = finR wd ns rows row := by unfold finR; rw [if_pos (.inr a)]
theorem fin0 (a : decide (ns = []) = false) (b : ([22, 23].any fun x => x == ns.getLastD 0) = true) : ¬ (ns = [] ∨ ([22, 23].any fun x => x == ns.getLastD 0) = false) := by
  rintro (h | h)
  · exact of_decide_eq_false a h
  · rw [b] at h; cases h
theorem fin3 (a : decide (ns = []) = false) (b : ([22, 23].any fun x => x == ns.getLastD 0) = true) (c : (row.length : Int) = wd - 1) : rows ++ [row ++ Str.ofString "=", Str.ofString ""] = finR wd ns rows row := by
  unfold finR; rw [if_neg (fin0 a b), if_pos c]
theorem fin4 (a : decide (ns = []) = false) (b : ([22, 23].any fun x => x == ns.getLastD 0) = true) (c : (row.length : Int) ≠ wd - 1) (d : (row.length : Int) = wd) (e : ns.getLastD 0 = 22) : rows ++ [Txt.slice row none (some (-1)) ++ Str.ofString "=", Str.ofString "=20"] = finR wd ns rows row := by
  unfold finR; rw [if_neg (fin0 a b), if_neg c, if_pos d, if_pos e]
theorem fin5 (a : decide (ns = []) = false) (b : ([22, 23].any fun x => x == ns.getLastD 0) = true) (c : (row.length : Int) ≠ wd - 1) (d : (row.length : Int) = wd) (e : ns.getLastD 0 ≠ 22) : rows ++ [Txt.slice row none (some (-1)) ++ Str.ofString "=", Str.ofString "=09"] = finR wd ns rows row := by
  unfold finR; rw [if_neg (fin0 a b), if_neg c, if_pos d, if_neg e]
theorem fin6 (a : decide (ns = []) = false) (b : ([22, 23].any fun x => x == ns.getLastD 0) = true) (c : (row.length : Int) ≠ wd - 1) (d : (row.length : Int) ≠ wd) (e : ns.getLastD 0 = 22) : rows ++ [Txt.slice row none (some (-1)) ++ Str.ofString "=20"] = finR wd ns rows row := by
  unfold finR; rw [if_neg (fin0 a b), if_neg c, if_neg d, if_pos e]
theorem fin7 (a : decide (ns = []) = false) (b : ([22, 23].any fun x => x == ns.getLastD 0) = true) (c : (row.length : Int) ≠ wd - 1) (d : (row.length : Int) ≠ wd) (e : ns.getLastD 0 ≠ 22) : rows ++ [Txt.slice row none (some (-1)) ++ Str.ofString "=09"] = finR wd ns rows row := by
  unfold finR; rw [if_neg (fin0 a b), if_neg c, if_neg d, if_neg e]
end
theorem rows_c {w : World} {dp un : Nat} {fr : Option (List Env)} {gd : Option (List Code)} {s : Shared} {mean : ExcName → Option Value} {mg mb : Str → Option Value} (l : Addr) (vs : List Value) (ns : List Int) (wd : Int) (t : Tok)
    (X : (Kf w.params).In s.heap) (T : Top qv (looseW qv lo) mean mg mb s.heap) (hd : dp + 4 < recursionLimit) (hu : un + 80 < cLine)
    (hl : s.heap.IsList l vs.toArray) (hi : IntsAre vs ns) (hn : ∀ n ∈ ns, 0 ≤ n ∧ n < 24) (hlen : ns.length ≤ 60) (hw : 4 ≤ wd ∧ wd ≤ 1000) :
    wpAny (model PySem.Challenge.rw_rw0035_01.prog w) (top9 dp un fr gd) (call (.ref 113) [.ref l, .int wd t]) (Post9 s (TextsR s (rowsS wd ns))) No9 s := by
  have hflat := flat_len (fun k => pce k.toNat) (fun _ => pce_len _) ns
  have hpc := pcS_len
  k_with_none
  have hpk : ∀ (pre : List Int) (k : Int), (Str.ofString "" ++ mk (pce k.toNat)).length ≤ 3 * (pre ++ [k]).length := fun pre k => by have := hpc k; rw [empty_mk, mk_app]; simp only [mk_len, List.length_append, List.length_cons, List.length_nil] at this ⊢; omega
  k_with "state" => first | exact ⟨rfl, by simp only [empty_mk, mk_len, List.length_nil]; omega, by simp only [List.length_nil]; omega⟩ | (refine ⟨runS_cut (by assumption) (by assumption) (by assumption), hpk _ _, ?_⟩; simp only [List.length_append, List.length_cons, List.length_nil]; omega) | (refine ⟨runS_on (by assumption) ?_, ?_, ?_⟩; (focus (rintro ⟨h1, h2⟩; first | contradiction | omega)); (focus (have := hpc kN; simp only [PySem.Str.length_append, List.length_append, List.length_cons, List.length_nil]; omega)); (focus (simp only [List.length_append, List.length_cons, List.length_nil]; omega)))
  k_with "pyIter ref" => k_state (fun pre row left rows => runS wd ((mk (ns.flatMap fun k => pce k.toNat)).length : Int) pre = (rows, row, left) ∧ row.length ≤ 3 * pre.length ∧ rows.length ≤ pre.length) "row" "left" "rows$"
  walk_at "m_in"
  k_steps
  all_goals (with_reducible rename Fr _ _ _ _ => F9)
  all_goals (with_reducible rename News _ _ _ _ => N9)
  all_goals (with_reducible rename StrsAre _ _ => hS9)
  all_goals (with_reducible rename runS _ _ _ = _ => hR9)
  all_goals first | refine post_app1 F9 N9 hS9 (rowsS_of hR9 ?_) | refine post_app2 F9 N9 hS9 (rowsS_of hR9 ?_)
  · with_reducible exact fin1 (by with_reducible assumption)
  · with_reducible exact fin3 (by with_reducible assumption) (by with_reducible assumption) (by with_reducible assumption)
  · with_reducible exact fin4 (by with_reducible assumption) (by with_reducible assumption) (by with_reducible assumption) (by with_reducible assumption) (by with_reducible assumption)
  · with_reducible exact fin6 (by with_reducible assumption) (by with_reducible assumption) (by with_reducible assumption) (by with_reducible assumption) (by with_reducible assumption)
  · with_reducible exact fin5 (by with_reducible assumption) (by with_reducible assumption) (by with_reducible assumption) (by with_reducible assumption) (by with_reducible assumption)
  · with_reducible exact fin7 (by with_reducible assumption) (by with_reducible assumption) (by with_reducible assumption) (by with_reducible assumption) (by with_reducible assumption)
  · with_reducible exact fin2 (by with_reducible assumption)
end
section
noncomputable def LowC (z : Str) : Prop := ∀ c ∈ z.cps.toList, c < 256
theorem LowC.app {a b : Str} (ha : LowC a) (hb : LowC b) : LowC (a ++ b) := by
  intro c hc
  have : c ∈ a.cps.toList ++ b.cps.toList := by rw [PySem.Str.cps_append, Array.toList_append] at hc; exact hc
  rcases List.mem_append.mp this with h | h
  · exact ha c h
  · exact hb c h
theorem LowC.mk' {l : List Nat} (h : ∀ c ∈ l, c < 256) : LowC (mk l) := by intro c hc; exact h c (by simpa [mk] using hc)
theorem LowC.slice {a : Str} (ha : LowC a) (x y : Option Int) : LowC (Txt.slice a x y) := fun c hc => ha c (NT.slice_sub a x y c hc)
theorem pce_low (n : Nat) : ∀ c ∈ pce n, c < 256 := by
  intro c hc
  unfold pce at hc
  split at hc
  · simp at hc; omega
  · split at hc
    · simp at hc; omega
    · split at hc
      · simp at hc; omega
      · split at hc
        · simp at hc; omega
        · split at hc <;> (simp at hc; omega)
theorem eq_low : LowC (Str.ofString "=") := by rw [eq_mk]; exact .mk' (by simp)
theorem em_low : LowC (Str.ofString "") := by rw [empty_mk]; exact .mk' (by simp)
theorem c20 : Str.ofString "=20" = mk [61, 50, 48] := by decide +kernel
theorem c09 : Str.ofString "=09" = mk [61, 48, 57] := by decide +kernel
theorem c20_low : LowC (Str.ofString "=20") := by rw [c20]; exact .mk' (by simp)
theorem c09_low : LowC (Str.ofString "=09") := by rw [c09]; exact .mk' (by simp)
structure RunI (st : List Str × Str × Int) (k : Nat) : Prop where
  n : st.1.length ≤ k
  r : ∀ z ∈ st.1, z.length ≤ 3 * k + 1 ∧ LowC z
  l : st.2.1.length ≤ 3 * k
  c : LowC st.2.1
theorem RunI.step {st : List Str × Str × Int} {n : Nat} (wd k : Int) (ih : RunI st n) : RunI (stepS wd st k) (n + 1) := by
  have hp := pcS_len k
  unfold stepS
  split
  · refine ⟨?_, ?_, ?_, ?_⟩
    · have := ih.n; simp only [List.length_append, List.length_cons, List.length_nil]; omega
    · intro z hz
      rcases List.mem_append.mp hz with h | h
      · have := ih.r z h; exact ⟨by omega, this.2⟩
      · rw [List.mem_singleton.mp h]
        refine ⟨?_, ih.c.app eq_low⟩
        have := ih.l
        rw [PySem.Str.length_append, eq_mk, mk_len]
        simp only [List.length_cons, List.length_nil]
        omega
    · show (Str.ofString "" ++ Mine.mk (pce k.toNat)).length ≤ _
      rw [PySem.Str.length_append, empty_mk, mk_len]
      simp only [List.length_nil]
      omega
    · exact em_low.app (.mk' (pce_low _))
  · refine ⟨?_, ?_, ?_, ?_⟩
    · have := ih.n; simp only; omega
    · intro z hz
      have := ih.r z hz; exact ⟨by omega, this.2⟩
    · show (st.2.1 ++ Mine.mk (pce k.toNat)).length ≤ _
      have := ih.l
      rw [PySem.Str.length_append]
      omega
    · exact ih.c.app (.mk' (pce_low _))
theorem runI_aux (wd : Int) : ∀ (ns : List Int) (st : List Str × Str × Int) (n : Nat), RunI st n → RunI (ns.foldl (stepS wd) st) (n + ns.length)
  | [], st, n, h => h
  | k :: ns, st, n, h => by
    have := runI_aux wd ns _ _ (h.step wd k)
    rw [List.foldl_cons, List.length_cons, show n + (ns.length + 1) = n + 1 + ns.length by omega]
    exact this
theorem runI (wd l0 : Int) (ns : List Int) : RunI (runS wd l0 ns) ns.length := by
  have := runI_aux wd ns ([], Str.ofString "", l0) 0 ⟨Nat.le_refl _, (fun _ h => nomatch h), (by show (Str.ofString "").length ≤ _; rw [empty_mk, mk_len]; simp), em_low⟩
  rw [Nat.zero_add] at this
  exact this
theorem rowsS_good (wd : Int) (ns : List Int) : (rowsS wd ns).length ≤ ns.length + 2 ∧ ∀ z ∈ rowsS wd ns, z.length ≤ 3 * ns.length + 4 ∧ LowC z := by
  have I := runI wd ((mk (ns.flatMap fun k => pce k.toNat)).length : Int) ns
  unfold rowsS
  generalize runS wd ((mk (ns.flatMap fun k => pce k.toNat)).length : Int) ns = st at I ⊢
  obtain ⟨rows, row, left⟩ := st
  obtain ⟨h1, h2, h3, h4⟩ := I
  dsimp only at h1 h2 h3 h4 ⊢
  have hs := Txt.slice_le row none (some (-1))
  have a : ∀ z ∈ rows, z.length ≤ 3 * ns.length + 4 ∧ LowC z := fun z hz => ⟨by have := (h2 z hz).1; omega, (h2 z hz).2⟩
  have b : ∀ xs : List Str, (∀ z ∈ xs, z.length ≤ 3 * ns.length + 4 ∧ LowC z) → ∀ z ∈ rows ++ xs, z.length ≤ 3 * ns.length + 4 ∧ LowC z := fun xs hx z hz => by
    rcases List.mem_append.mp hz with h | h
    · exact a z h
    · exact hx z h
  have e1 : (Str.ofString "=").length = 1 := by rw [eq_mk, mk_len]; rfl
  have e2 : (Str.ofString "=20").length = 3 := by rw [c20, mk_len]; rfl
  have e3 : (Str.ofString "=09").length = 3 := by rw [c09, mk_len]; rfl
  have e0 : (Str.ofString "").length = 0 := by rw [empty_mk, mk_len]; rfl
  have lw : LowC (if ns.getLastD 0 = 22 then Str.ofString "=20" else Str.ofString "=09") := by split <;> first | exact c20_low | exact c09_low
  have ll : (if ns.getLastD 0 = 22 then Str.ofString "=20" else Str.ofString "=09").length = 3 := by split <;> assumption
  unfold finR
  split
  · refine ⟨by simp only [List.length_append, List.length_cons, List.length_nil]; omega, b _ fun z hz => ?_⟩
    rw [List.mem_singleton.mp hz]; exact ⟨by omega, h4⟩
  · split
    · refine ⟨by simp only [List.length_append, List.length_cons, List.length_nil]; omega, b _ fun z hz => ?_⟩
      rcases List.mem_cons.mp hz with rfl | hz
      · exact ⟨by rw [PySem.Str.length_append]; omega, h4.app eq_low⟩
      · rw [List.mem_singleton.mp hz]; exact ⟨by omega, em_low⟩
    · split
      · refine ⟨by simp only [List.length_append, List.length_cons, List.length_nil]; omega, b _ fun z hz => ?_⟩
        rcases List.mem_cons.mp hz with rfl | hz
        · exact ⟨by rw [PySem.Str.length_append]; omega, (h4.slice _ _).app eq_low⟩
        · rw [List.mem_singleton.mp hz]; exact ⟨by omega, lw⟩
      · refine ⟨by simp only [List.length_append, List.length_cons, List.length_nil]; omega, b _ fun z hz => ?_⟩
        rw [List.mem_singleton.mp hz]
        exact ⟨by rw [PySem.Str.length_append]; omega, (h4.slice _ _).app lw⟩
section
variable {w : World} {A : Around} {s : Shared} {Q E : Value → Shared → Prop} {h₀ : Heap} {L : Addr} {m : Str → Option Value} {news : List (Addr × Obj)}
theorem useT {f : Addr} {vs : List Value} {xs : List Str} (C : wpAny (model PySem.Challenge.rw_rw0035_01.prog w) A (call (.ref f) vs []) (Post9 s (TextsR s xs)) No9 s) (F : Fr h₀ L s.heap m) (N : News h₀ L s.heap news)
    (h : ∀ r items n h' tk', Fr h₀ L h' m → News h₀ L h' ((r, W.listOf (List.toArray items) n) :: news) → (∀ p ∈ news, @Ne Nat p.1 r) → StrsAre items xs → Q (.ref r) { s with heap := h', toks := tk' }) :
    wpAny (model PySem.Challenge.rw_rw0035_01.prog w) A (call (.ref f) vs []) Q E s := by
  refine wpAny_mono C (fun v s' ⟨k, hr⟩ => ?_) fun _ _ x => x.elim
  obtain ⟨r, items, n, rfl, hn, hs, hi⟩ := hr
  rw [k.eq]
  obtain ⟨oL, es, ep, hL, _⟩ := F.ns
  refine h r items n _ _ (k.fr F) (fun p hp => ?_) (fun p hp q => ?_) hi
  · rcases List.mem_cons.mp hp with rfl | hp
    · refine ⟨hs, fun (q : r = L) => ?_, ?_⟩
      · rw [q, hL] at hn; cases hn
      · cases q : h₀.get? r with
        | none => rfl
        | some o => rw [F.keep r o q] at hn; cases hn
    · exact k.newsK N p hp
  · rw [← q, (N p hp).1] at hn; cases hn
end
end
section
noncomputable def dueStep (wd : Int) (st : List Str × List Int) (k : Int) : List Str × List Int := if k = 24 then (st.1 ++ rowsS wd st.2, []) else (st.1, st.2 ++ [k])
noncomputable def dueRun (wd : Int) (ns : List Int) : List Str × List Int := ns.foldl (dueStep wd) ([], [])
theorem dueRun_snoc (wd : Int) (pre : List Int) (k : Int) : dueRun wd (pre ++ [k]) = dueStep wd (dueRun wd pre) k := by unfold dueRun; rw [List.foldl_append]; rfl
structure DueJ (wd : Int) (pre : List Int) (rs : List Str) (ln : List Int) : Prop where
  run : dueRun wd pre = (rs, ln)
  len : ln.length ≤ pre.length
  num : ∀ n ∈ ln, 0 ≤ n ∧ n < 24
  rows : rs.length ≤ 30 * pre.length
  good : pre.length ≤ 21 → ∀ z ∈ rs, z.length ≤ 70 ∧ LowC z
theorem DueJ.nil {wd : Int} : DueJ wd [] [] [] := ⟨rfl, Nat.le_refl _, (fun _ h => nomatch h), Nat.le_refl _, (fun _ _ h => nomatch h)⟩
theorem DueJ.cut {wd : Int} {pre : List Int} {rs : List Str} {ln : List Int} {n : Int} (J : DueJ wd pre rs ln) (h : n = 24) (hp : pre.length ≤ 20) : DueJ wd (pre ++ [n]) (rs ++ rowsS wd ln) [] := by
  obtain ⟨h1, h2, h3, h4, h5⟩ := J
  have hg := rowsS_good wd ln
  refine ⟨by rw [dueRun_snoc, h1]; unfold dueStep; rw [if_pos h], by simp, (fun _ h => nomatch h), ?_, fun _ z hz => ?_⟩
  · simp only [List.length_append, List.length_cons, List.length_nil]; omega
  · rcases List.mem_append.mp hz with q | q
    · exact h5 (by omega) z q
    · have := hg.2 z q; exact ⟨by omega, this.2⟩
theorem DueJ.on {wd : Int} {pre : List Int} {rs : List Str} {ln : List Int} {n : Int} (J : DueJ wd pre rs ln) (h : ¬ n = 24) (hn : 0 ≤ n ∧ n < 25) : DueJ wd (pre ++ [n]) rs (ln ++ [n]) := by
  obtain ⟨h1, h2, h3, h4, h5⟩ := J
  refine ⟨by rw [dueRun_snoc, h1]; unfold dueStep; rw [if_neg h], by simp only [List.length_append]; omega, fun k hk => ?_, by simp only [List.length_append, List.length_cons, List.length_nil]; omega, fun hp z hz => h5 (by simp only [List.length_append, List.length_cons, List.length_nil] at hp; omega) z hz⟩
  rcases List.mem_append.mp hk with q | q
  · exact h3 k q
  · rw [List.mem_singleton.mp q]; omega
local macro_rules | `(tactic| walk_at "exec For") => `(tactic| (k_here; rename Fr _ _ _ _ => lF'; with_unfolding_all refine' For_invVF lF' ?k1 ?k2 ?_; (case k1 | k2 => exact rfl); k_whole))
noncomputable def hasPar (z : Str) : Bool := !(Builtin.Str.occurrences z (Str.ofString "(") 0 z.length 1).isEmpty
noncomputable def dueS (wd : Int) (ns : List Int) (bl : List Nat) : Heard :=
  if wd < 4 then .value
  else if ns.take 3 = [2, 2, 9] then
    match (dueRun wd (ns ++ [24])).1.dropLast.find? hasPar with
    | some y => readS (Txt.slice y (some (Txt.find y (Str.ofString "(") + 1)) none ++ mk bl)
    | none => .proto
  else .reply
section
variable {wd : Int} {ns : List Int} {bl : List Nat} {rs pre post : List Str} {ln : List Int} {y : Str}
theorem dueS_v (h : wd < 4) : dueS wd ns bl = .value := by unfold dueS; rw [if_pos h]
theorem dueS_r (h : ¬ wd < 4) (h2 : ¬ ns.take 3 = [2, 2, 9]) : dueS wd ns bl = .reply := by unfold dueS; rw [if_neg h, if_neg h2]
theorem par_none : ∀ {pre : List Str}, (∀ z ∈ pre, (Builtin.Str.occurrences z (Str.ofString "(") 0 z.length 1).isEmpty = true) → pre.find? hasPar = none
  | [], _ => rfl
  | z :: pre, h => by
    have h1 := h z (.head _)
    rw [List.find?_cons_of_neg (by unfold hasPar; rw [h1]; simp)]
    exact par_none fun z hz => h z (.tail _ hz)
theorem dueS_p (h : ¬ wd < 4) (h2 : ns.take 3 = [2, 2, 9]) (J : DueJ wd (ns ++ [24]) rs ln) (hP : ∀ z ∈ rs.dropLast, (Builtin.Str.occurrences z (Str.ofString "(") 0 z.length 1).isEmpty = true) : dueS wd ns bl = .proto := by
  unfold dueS
  rw [if_neg h, if_pos h2, J.run]
  dsimp only
  rw [par_none hP]
theorem dueS_f (h : ¬ wd < 4) (h2 : ns.take 3 = [2, 2, 9]) (J : DueJ wd (ns ++ [24]) rs ln) (e : rs.dropLast = pre ++ y :: post) (hP : ∀ z ∈ pre, (Builtin.Str.occurrences z (Str.ofString "(") 0 z.length 1).isEmpty = true) (hy : (Builtin.Str.occurrences y (Str.ofString "(") 0 y.length 1).isEmpty = false) :
    dueS wd ns bl = readS (Txt.slice y (some (Txt.find y (Str.ofString "(") + 1)) none ++ mk bl) := by
  unfold dueS
  rw [if_neg h, if_pos h2, J.run]
  dsimp only
  rw [e, List.find?_append, par_none hP, List.find?_cons_of_pos (by unfold hasPar; rw [hy]; rfl)]
  rfl
end
theorem Kp.after {s s₂ : Shared} {L : Addr} {m : Str → Option Value} {h : Heap} {tk : Nat} (F : Fr s.heap L h m) (k : Kp { s with heap := h, toks := tk } s₂) : Kp s s₂ := ⟨fun b o e => k.keep b o (F.keep b o e), k.gens, k.drawn, k.os⟩
theorem DueIs.back {s : Shared} {h : Heap} {tk : Nat} {L : Addr} {m : Str → Option Value} {r : Heard} {v : Value} {h' : Heap} (F : Fr s.heap L h m) (d : DueIs { s with heap := h, toks := tk } r v h') : DueIs s r v h' := by
  cases r with
  | peer n =>
    obtain ⟨D, t, u, rfl, h1, h2⟩ := d
    refine ⟨D, t, u, rfl, ?_, h2⟩
    cases q : s.heap.get? D with
    | none => rfl
    | some o => have := F.keep D o q; rw [h1] at this; cases this
  | reply => exact d
  | proto => exact d
  | value => exact d
theorem useR {w : World} {A : Around} {s : Shared} {Q E : Value → Shared → Prop} {f : Addr} {vs : List Value} {r : Heard} (C : wpAny (model PySem.Challenge.rw_rw0035_01.prog w) A (call (.ref f) vs []) (Post9 s (DueIs s r)) No9 s)
    (h : ∀ v h' tk', Kp s { s with heap := h', toks := tk' } → DueIs s r v h' → Q v { s with heap := h', toks := tk' }) : wpAny (model PySem.Challenge.rw_rw0035_01.prog w) A (call (.ref f) vs []) Q E s :=
  wpAny_mono C (fun v s' ⟨k, d⟩ => by have e := k.eq; rw [e] at k ⊢; exact h v _ _ k d) fun _ _ x => x.elim
theorem ne_rl : ¬ Str.ofString "rows" = Str.ofString "line" := by decide
theorem ne_lk : ¬ Str.ofString "line" = Str.ofString "kind" := by decide
noncomputable def Stop7 (p : Prop) : Prop := p
theorem stop7 {p : Prop} (h : Stop7 p) : p := h
local macro_rules | `(tactic| walk_at "pyIter ref") => `(tactic| ((with_reducible show wpAny _ _ (pyIter _) _ _ _); refine stop7 ?_))
local macro_rules | `(tactic| walk_at "call ref") => `(tactic| ((with_reducible show wpAny _ _ (call (Value.ref 113) [Value.ref _, Value.int _ _] []) _ _ _); (with_reducible rename News _ _ _ _ => rN9); k_dflt (refine' useT (rows_c _ _ _ _ _ (Frag.In.keeps ?X (Fr.keep ?F)) (Top.keeps ?T (Fr.keep ?F)) ?d ?u (rN9.isList ?hm) ?hi ?hn ?hl ?hw) ?F2 rN9 ?_; (case F | F2 => k_asm); (case X | T => assumption); (case d | u => walk_at "m_room"); (case hm => k_mem); (case hi | hn => with_reducible assumption); case hl | hw => omega); intro r9 i9 n9 h' tk' F' N' d9 s9; simp only [List.forall_mem_cons, List.not_mem_nil, false_implies, implies_true, and_true] at d9; have z9 := PyProof.Rows.StrsAre.length s9))
local macro_rules | `(tactic| walk_at "inplaceOp Add ref ref") => `(tactic| ((with_reducible show wpAny _ _ (inplaceOp Operator.Add (Value.ref _) (Value.ref _)) _ _ _); (with_reducible rename Fr _ _ _ _ => iF9); (with_reducible rename News _ _ _ _ => iN9); k_dflt (refine LA.iadd_N iF9 iN9 (by k_mem) (Upd.tail (by k_ne) (Upd.head (by ((simp only [List.forall_mem_cons, List.not_mem_nil, false_implies, implies_true, and_true]); (repeat' (first | (refine And.intro ?_ ?_) | k_ne)))))) (by ((try simp only [List.size_toArray]); omega)) ?_); intro h' F' N'))
local macro_rules | `(tactic| walk_at "subscriptTail Name Slice ref ref") => `(tactic| ((with_reducible show wpAny _ _ (subscriptTail _ (Expr.Slice none (some _) none _) (Value.ref _) (Value.ref _)) _ _ _); (with_reducible rename News _ _ _ _ => sN9); (with_reducible rename StrsAre _ _ => sS9); k_dflt (refine' LA.slice_init ?F sN9 ?hm sS9 ?_ ?hs ?ht ?hz; (case F => k_asm); (case hm => k_mem); (case hs => with_unfolding_all rfl); (case ht => intro _; with_unfolding_all rfl); case hz => omega); intro D9 w9 h' F' N' l1 s9))
theorem due_loop2 {prog : Program} {w : World} {A : Around} {E : Value → Shared → Prop} {s : Shared} {env : Env} {h₀ : Heap} {x : Str} {body : List Stmt} {Q : Flow → Shared → Prop} {D : Addr} {n : Nat} {items : List Value} {xs : List Str} {m₀ : Str → Option Value} {news : List (Addr × Obj)} (P : List Str → Prop)
    (hh : A.handled = none) (hi : StrsAre items xs) (F : Fr h₀ env.locals s.heap m₀) (N : News h₀ env.locals s.heap ((D, W.listOf items.toArray n) :: news)) (hp : P [])
    (turn : ∀ (pre post : List Str) (y : Str) t h tk own, xs = pre ++ y :: post → P pre → Fr h₀ env.locals h (fun z => if z = x then some (.str y t) else m₀ z) → News h₀ env.locals h own →
      wpAny (model prog w) A (execs body env) (fun f s₂ => (f = .next ∧ (∃ h' tk' m', s₂ = { s with heap := h', toks := tk' } ∧ Fr h₀ env.locals h' m' ∧ News h₀ env.locals h' own ∧ (∀ z, z ≠ x → m' z = m₀ z)) ∧ P (pre ++ [y])) ∨ ∃ v, f = .ret v ∧ Q (.ret v) s₂) E { s with heap := h, toks := tk })
    (done : ∀ h tk, P xs → (∃ u : Str → Option Value, Fr h₀ env.locals h (fun z => if z = x then u z else m₀ z)) → News h₀ env.locals h [] → Q .next { s with heap := h, toks := tk }) :
    wpAny (model prog w) A (pyIter (.ref D)) (fun it s₂ => LoopAtV prog w A h₀ env x body Q E it s₂) E s := by
  refine TX.loop (σ := Unit) (fun _ => []) (fun _ => []) (fun _ => True) [] (fun pre _ => P pre) () hh ⟨_, (N _ (.head _)).1, rfl, n, rfl⟩ (N _ (.head _)).2.1 hi F News.nil (fun _ h => nomatch h) trivial (fun _ h => nomatch h) hp ?_ ?_
  · rintro _ pre post y t u h tk own hxs _ _ hP F' N'
    have e : (fun z => if z = x then some (Value.str y t) else kstB (fun z => if ([] : List Str).contains z then u z else m₀ z) [] z) = fun z => if z = x then some (Value.str y t) else m₀ z := by
      funext z
      by_cases hz : z = x
      · simp [hz]
      · simp [hz, kstB]
    rw [e] at F'
    refine wpAny_mono (turn pre post y t h tk own hxs hP F' N') (fun f s₂ p => ?_) fun _ _ x => x
    rcases p with ⟨rfl, ⟨h', tk', m', rfl, F₂, N₂, hm⟩, hP2⟩ | ⟨v, rfl, hq⟩
    · exact kst_end (x := x) () F₂ N₂ (fun _ h => nomatch h) (fun p hp => hp) rfl trivial (fun _ h => nomatch h) (fun z hz _ _ => hm z hz) hP2
    · exact hq
  · rintro _ u h tk _ hP F' N'
    refine done h tk hP ⟨u, ?_⟩ N'
    have e : (fun z => if z = x then u z else kstB (fun z => if ([] : List Str).contains z then u z else m₀ z) [] z) = fun z => if z = x then u z else m₀ z := by
      funext z
      by_cases hz : z = x
      · simp [hz]
      · simp [hz, kstB]
    rw [← e]
    exact F'
local macro_rules | `(tactic| walk_at "binaryOp Add str str") => `(tactic| ((with_reducible show wpAny _ _ (binaryOp Operator.Add (Value.str _ _) (Value.str (mk _) _)) _ _ _); (refine' PyProof.Rows.add_str ?_ ?hs; case hs => (try simp only [mk_len]); rw [PySem.sizeLine_eq]; omega); intro t9 k9))
local macro_rules | `(tactic| walk_at "call ref") => `(tactic| ((with_reducible show wpAny _ _ (call (Value.ref 118) [Value.str _ _] []) _ _ _); k_dflt (refine' useR (read_c _ _ (Frag.In.keeps ?X (Fr.keep ?F)) (Top.keeps ?T (Fr.keep ?F)) ?d ?u ?hl ?hc) ?_; (case F => k_asm); (case X | T => assumption); (case d | u => walk_at "m_room"); (case hl => rw [PySem.Str.length_append, mk_len]; omega); case hc => exact LowC.app (LowC.slice (by with_reducible assumption) _ _) (by with_reducible assumption)); intro v9 h9 tk9 K9 D9))
theorem due_c {w : World} {dp un : Nat} {fr : Option (List Env)} {gd : Option (List Code)} {s : Shared} {mean : ExcName → Option Value} {mg mb : Str → Option Value} (l : Addr) (vs : List Value) (ns : List Int) (wd : Int) (bl : List Nat) (t t2 : Tok)
    (X : (Kf w.params).In s.heap) (T : Top qv (looseW qv lo) mean mg mb s.heap) (hd : dp + 8 < recursionLimit) (hu : un + 120 < cLine)
    (hl : s.heap.IsList l vs.toArray) (hi : IntsAre vs ns) (hn : ∀ n ∈ ns, 0 ≤ n ∧ n < 25) (hlen : 3 ≤ ns.length ∧ ns.length ≤ 20) (hw : 3 ≤ wd ∧ wd ≤ 1000) (hbl : bl.length ≤ 1) (hbc : LowC (mk bl)) :
    wpAny (model PySem.Challenge.rw_rw0035_01.prog w) (top9 dp un fr gd) (call (.ref 125) [.ref l, .int wd t, .str (mk bl) t2]) (Post9 s (DueIs s (dueS wd ns bl))) No9 s := by
  walk_at "m_in"
  k_with_none
  k_steps
  · with_reducible rename Fr _ _ _ _ => F9
    exact ⟨Kp.of F9, by rw [dueS_v (by with_reducible assumption)]; exact ⟨_, rfl⟩⟩
  · with_reducible rename Fr _ _ _ _ => F9
    with_reducible rename News _ _ _ _ => N9
    with_reducible rename (IntsAre _ (_ ++ [24])) => hI9
    with_reducible rename (_ ∧ _ ∧ _ ∧ _ ∧ _ < _) => hA9
    with_reducible rename (¬ _ < 4) => hW9
    unfold Stop7
    refine DL.loop (DueJ wd) (by rfl) hI9 (by exact F9) (by exact N9) (by exact .head _) (by exact .tail _ (.tail _ (.tail _ (.head _)))) (by exact .tail _ (.tail _ (.head _))) ?_ ?_ ?_ ?_ ?_ ?_ ?_
    · exact Nat.ne_of_lt (by omega)
    · exact Nat.ne_of_lt (by omega)
    · exact Nat.ne_of_lt (by omega)
    · rfl
    · exact DueJ.nil
    · intro it io od rv rs kr Lb lv ln kl pre n post tn h' tk' hns hmem q1 q2 q3 q4 q5 q6 hrv hlv hJ F8 N8
      have hpl : pre.length ≤ 20 := by have := congrArg List.length hns; simp only [List.length_append, List.length_cons, List.length_nil] at this; omega
      have hz1 : rv.length ≤ 630 := by have := hJ.rows; rw [hrv.length]; omega
      have hz2 : ln.length ≤ 20 := by have := hJ.len; omega
      have hz3 : lv.length = ln.length := hlv.length
      have hz4 := rowsS_good wd ln
      have hz5 : (rowsS wd ln).length ≤ 22 := by omega
      have hz6 := hJ.num
      clear hz4
      k_steps
      · with_reducible rename Fr _ _ _ _ => fF
        with_reducible rename News _ _ _ _ => fN
        with_reducible rename (_ ∧ _ ∧ _ ∧ _ ∧ _ < _) => fL
        with_reducible rename StrsAre _ (rowsS _ _) => fS
        exact DL.end1 fF fN (by intro z hz; by_cases z1 : z = Str.ofString "line" <;> by_cases z2 : z = Str.ofString "rows" <;> simp [z1, z2, hz, ne_rl]) fL hrv fS (hJ.cut (by with_reducible assumption) hpl)
      · with_reducible rename Fr _ _ _ _ => fF
        with_reducible rename News _ _ _ _ => fN
        have hn' : 0 ≤ n ∧ n < 25 := by
          rcases List.mem_append.mp hmem with q | q
          · exact hn n q
          · rw [List.mem_singleton.mp q]; omega
        exact DL.end2 fF fN (by intro z hz; by_cases z1 : z = Str.ofString "line" <;> simp [z1, hz, ne_lk]) q4 q5 q6 hrv hlv (hJ.on (by with_reducible assumption) hn')
    · intro rv rs kr ln u Lb h' tk' hrv hJ F8 N8
      have hz1 : rv.length ≤ 700 := by have := hJ.rows; simp only [List.length_append, List.length_cons, List.length_nil] at this; rw [hrv.length]; omega
      k_steps
      unfold Stop7
      with_reducible rename StrsAre _ (List.dropLast _) => sS
      with_reducible rename Fr _ _ _ _ => F7
      with_reducible rename News _ _ _ _ => N7
      refine due_loop2 (fun pre => ∀ z ∈ pre, (Builtin.Str.occurrences z (Str.ofString "(") 0 z.length 1).isEmpty = true) (by rfl) sS (by exact F7) (by exact N7) ?_ ?_ ?_
      · intro z hz; cases hz
      · intro pre post y ty h' tk' own hxs hP F6 N6
        have hy70 := hJ.good (by simp only [List.length_append, List.length_cons, List.length_nil]; omega) y ((List.dropLast_subset _) (by rw [hxs]; simp))
        have hyl := hy70.1
        have hyc := hy70.2
        clear hy70
        k_steps
        · with_reducible rename (List.isEmpty _ = true) => hE9
          refine .inl ⟨rfl, ⟨_, _, _, rfl, F6, N6, fun z hz => if_neg hz⟩, fun z hz => ?_⟩
          rcases List.mem_append.mp hz with q | q
          · exact hP z q
          · rw [List.mem_singleton.mp q]; exact hE9
        · exfalso
          with_reducible rename (List.isEmpty _ = true) => hE9
          with_reducible rename (List.isEmpty _ = false) => hE8
          rw [hE9] at hE8; cases hE8
        · with_reducible rename (List.isEmpty _ = false) => hE8
          with_reducible rename Kp _ _ => hK9
          with_reducible rename DueIs _ _ _ _ => hD9
          with_reducible rename Fr _ _ _ _ => hF9
          refine .inr ⟨_, rfl, Kp.after hF9 hK9, ?_⟩
          rw [dueS_f hW9 (by with_reducible assumption) hJ hxs hP hE8]
          exact DueIs.back hF9 hD9
      · intro h' tk' hP F6 N6
        k_steps
        obtain ⟨u6, F6⟩ := F6
        exact ⟨Kp.of F6, by rw [dueS_p hW9 (by with_reducible assumption) hJ hP]; exact ⟨_, rfl⟩⟩
  · with_reducible rename Fr _ _ _ _ => F9
    exact ⟨Kp.of F9, by rw [dueS_r (by with_reducible assumption) (by with_reducible assumption)]; exact ⟨_, rfl⟩⟩
end
section
noncomputable def encN (c : Nat) : List Nat := bif Nat.beq c 13 || Nat.beq c 10 || inR 32 60 c || inR 62 126 c || Nat.beq c 9 then [c] else [61, hx (c / 16), hx (c % 16)]
theorem encN_len (c : Nat) : (mk (encN c)).length ≤ 3 := by
  rw [mk_len]
  unfold encN
  cases (Nat.beq c 13 || Nat.beq c 10 || inR 32 60 c || inR 62 126 c || Nat.beq c 9) <;> simp
theorem enc_len (l : List Nat) : (l.flatMap encN).length ≤ 3 * l.length := by
  induction l with
  | nil => simp
  | cons c l ih =>
    have := encN_len c
    rw [mk_len] at this
    rw [List.flatMap_cons, List.length_append, List.length_cons]
    omega
theorem enc_pos {l : List Nat} (h : 1 ≤ l.length) : 1 ≤ (l.flatMap encN).length := by
  cases l with
  | nil => simp at h
  | cons c r =>
    have : 1 ≤ (encN c).length := by unfold encN; cases (Nat.beq c 13 || Nat.beq c 10 || inR 32 60 c || inR 62 126 c || Nat.beq c 9) <;> simp
    rw [List.flatMap_cons, List.length_append]
    omega
noncomputable def qS (c : Nat) : List Nat := [61, hx (c / 16), hx (c % 16)]
noncomputable def finR1 (w : Nat) (e r : List Nat) : List Nat :=
  if r.getLast? = some 32 ∨ r.getLast? = some 9 then
    (if r.length + 2 ≤ w then r.dropLast ++ qS (r.getLastD 0) else if r.length + 1 = w then r.dropLast ++ (r.getLastD 0 :: 61 :: e) else r.dropLast ++ ((61 :: e) ++ qS (r.getLastD 0)))
  else r
noncomputable def cutF (w : Nat) (e : List Nat) : Nat → List Nat → List (List Nat)
  | 0, r => [finR1 w e r]
  | n + 1, r => if r.length ≤ w then [finR1 w e r]
    else if r[w - 3]? = some 61 then r.take (w - 2) :: cutF w e n (r.drop (w - 3))
    else if r[w - 2]? = some 61 then r.take (w - 1) :: cutF w e n (r.drop (w - 2))
    else (r.take (w - 1) ++ [61]) :: cutF w e n (r.drop (w - 1))
theorem cutF_done {w : Nat} {e r : List Nat} (h : r.length ≤ w) : ∀ n, cutF w e n r = [finR1 w e r]
  | 0 => rfl
  | n + 1 => by rw [cutF, if_pos h]
noncomputable def lineR (w : Nat) (e : List Nat) (y : Str) : List Str := (cutF w e y.length y.cps.toList).map mk
theorem mk_self (y : Str) : mk y.cps.toList = y := by apply PySem.Str.ext'; show y.cps.toList.toArray = y.cps; simp
noncomputable def Cut (w : Nat) (e : List Nat) (y : Str) (ws₀ : List Str) (start : Int) (ws : List Str) : Prop :=
  ∃ k n : Nat, start = k ∧ k ≤ y.length ∧ (1 ≤ y.length → k < y.length) ∧ y.length ≤ n + k ∧ ws.length ≤ ws₀.length + k ∧ ws ++ (cutF w e n (y.cps.toList.drop k)).map mk = ws₀ ++ lineR w e y
theorem Cut.start {w : Nat} {e : List Nat} {y : Str} {ws : List Str} : Cut w e y ws 0 ws := ⟨0, y.length, rfl, by omega, by omega, by omega, by omega, by simp [lineR]⟩
theorem slice_mk {y : Str} {a b : Nat} (h1 : a ≤ b) (h2 : b ≤ y.length) : Txt.slice y (some (a : Int)) (some (b : Int)) = mk ((y.cps.toList.drop a).take (b - a)) := PySem.StrLaws.sliceText_nat y h1 h2
theorem slice_from {y : Str} {a : Nat} (h1 : a ≤ y.length) : Txt.slice y (some (a : Int)) none = mk (y.cps.toList.drop a) := by
  have h2 : (a : Int) ≤ y.cps.toList.length := by simp [PySem.Str.length] at h1 ⊢; omega
  have := PySem.StrLaws.sliceText_from (x := y) (i := (a : Int)) ⟨by omega, h2⟩
  refine Eq.trans this ?_
  show (⟨_⟩ : Str) = ⟨_⟩
  rw [Int.toNat_natCast, List.take_of_length_le]
  rw [List.length_drop]
  omega
theorem slice_init {y : Str} {a : Nat} (h1 : a < y.length) : Txt.slice y (some (a : Int)) (some (-1)) = mk (y.cps.toList.drop a).dropLast := by
  have hl : y.cps.toList.length = y.length := rfl
  have e : Txt.slice y (some (a : Int)) (some (-1)) = Txt.slice y (some (a : Int)) (some ((y.length - 1 : Nat) : Int)) := by
    refine Eq.trans (PySem.StrLaws.sliceText_neg_hi y (some (a : Int)) (j := -1) (by omega) (by omega)) ?_
    rw [show (-1 : Int) + (y.length : Int) = ((y.length - 1 : Nat) : Int) by omega]
    rfl
  rw [e, slice_mk (by omega) (by omega), List.dropLast_eq_take, List.length_drop, hl, show y.length - 1 - a = y.length - a - 1 by omega]
theorem item_at {y : Str} {a : Nat} (h : a < y.length) : ∃ c, y.cps.toList[a]? = some c ∧ Txt.item y (a : Int) = mk [c] := by
  obtain ⟨n, hn⟩ := PySem.StrLaws.some_at (x := y) (i := (a : Int)) (by omega) (by omega)
  rw [Int.toNat_natCast] at hn
  refine ⟨n, by simpa using hn, ?_⟩
  have := PySem.StrLaws.at_nonneg (x := y) (i := (a : Int)) (by omega) (by rw [Int.toNat_natCast]; exact hn)
  unfold Txt.item Txt.charAt
  rw [this]
  rfl
theorem item_last {y : Str} (h : 1 ≤ y.length) : ∃ c, y.cps.toList.getLast? = some c ∧ Txt.item y (-1) = mk [c] := by
  obtain ⟨n, hn⟩ := PySem.StrLaws.some_at (x := y) (i := (-1 : Int) + y.length) (by omega) (by omega)
  have e : ((-1 : Int) + (y.length : Int)).toNat = y.length - 1 := by omega
  have hn' := hn
  rw [e] at hn'
  refine ⟨n, ?_, ?_⟩
  · rw [List.getLast?_eq_getElem?, show y.cps.toList.length = y.length from rfl]
    simpa using hn'
  · have := PySem.StrLaws.at_neg (x := y) (i := (-1 : Int)) (by omega) (by omega) hn
    unfold Txt.item Txt.charAt
    rw [this]
    rfl
theorem mk_eq {a b : List Nat} : (mk a == mk b) = decide (a = b) := by
  by_cases h : a = b
  · subst h; simp
  · rw [decide_eq_false h, beq_eq_false_iff_ne]
    intro q
    have : (mk a).cps = (mk b).cps := by rw [q]
    exact h (by simpa [mk] using this)
theorem eqs_mk : Str.ofString "=" = mk [61] := by decide +kernel
section
variable {w : Nat} {e : List Nat} {y : Str} {ws₀ wl : List Str} {st wd : Int}
theorem Cut.more (hC : Cut wd.toNat e y ws₀ st wl) (hw : 4 ≤ wd ∧ wd ≤ 1000) (h : st ≤ (y.length : Int) - 1 - wd) :
    ∃ k n : Nat, st = k ∧ k + wd.toNat < y.length ∧ y.length ≤ n + 1 + k ∧ wl.length ≤ ws₀.length + k ∧ wl ++ (cutF wd.toNat e (n + 1) (y.cps.toList.drop k)).map mk = ws₀ ++ lineR wd.toNat e y := by
  obtain ⟨k, n, rfl, h1, h2, h3, h4, h5⟩ := hC
  cases n with
  | zero => exact absurd h (by omega)
  | succ n => exact ⟨k, n, rfl, by omega, by omega, h4, h5⟩
theorem cutAt {k : Nat} {d : Nat} (h : k + d < y.length) : ∃ c, (y.cps.toList.drop k)[d]? = some c ∧ Txt.item y ((k + d : Nat) : Int) = mk [c] := by
  obtain ⟨c, h1, h2⟩ := item_at h
  exact ⟨c, by rw [List.getElem?_drop]; exact h1, h2⟩
theorem Cut.one (hC : Cut wd.toNat e y ws₀ st wl) (hw : 4 ≤ wd ∧ wd ≤ 1000) (h : st ≤ (y.length : Int) - 1 - wd) (hb : wl.length ≤ ws₀.length + st.toNat) (hi : (Txt.item y (st + (wd - 1) - 2) == Str.ofString "=") = true) :
    Cut wd.toNat e y ws₀ (st + (wd - 1) - 2) (wl ++ [Txt.slice y (some st) (some (st + (wd - 1) - 1))]) ∧ 0 ≤ st + (wd - 1) - 2 ∧ st + (wd - 1) - 2 ≤ (y.length : Int) ∧ (wl ++ [Txt.slice y (some st) (some (st + (wd - 1) - 1))]).length ≤ ws₀.length + (st + (wd - 1) - 2).toNat := by
  obtain ⟨k, n, rfl, h1, h2, h3, h5⟩ := hC.more hw h
  obtain ⟨W, rfl⟩ : ∃ W : Nat, wd = W := ⟨wd.toNat, by omega⟩
  simp only [Int.toNat_natCast] at *
  have hW : 4 ≤ W := by omega
  rw [show (k : Int) + ((W : Int) - 1) - 2 = ((k + (W - 3) : Nat) : Int) by omega] at hi ⊢
  rw [show (k : Int) + ((W : Int) - 1) - 1 = ((k + (W - 2) : Nat) : Int) by omega]
  obtain ⟨c, hc, hc'⟩ := cutAt (y := y) (k := k) (d := W - 3) (by omega)
  rw [hc', eqs_mk, mk_eq] at hi
  have hc61 : c = 61 := by simpa using hi
  subst hc61
  have hl : (y.cps.toList.drop k).length = y.length - k := by rw [List.length_drop]; rfl
  rw [slice_mk (by omega) (by omega), show k + (W - 2) - k = W - 2 by omega]
  rw [cutF, if_neg (by omega), if_pos hc, List.map_cons, List.drop_drop] at h5
  refine ⟨⟨k + (W - 3), n, rfl, by omega, by omega, by omega, by simp only [List.length_append, List.length_cons, List.length_nil]; omega, ?_⟩, by omega, by omega, by simp only [List.length_append, List.length_cons, List.length_nil]; omega⟩
  rw [List.append_assoc]
  exact h5
theorem Cut.two (hC : Cut wd.toNat e y ws₀ st wl) (hw : 4 ≤ wd ∧ wd ≤ 1000) (h : st ≤ (y.length : Int) - 1 - wd) (hb : wl.length ≤ ws₀.length + st.toNat) (hi : (Txt.item y (st + (wd - 1) - 2) == Str.ofString "=") = false) (hj : (Txt.item y (st + (wd - 1) - 1) == Str.ofString "=") = true) :
    Cut wd.toNat e y ws₀ (st + (wd - 1) - 1) (wl ++ [Txt.slice y (some st) (some (st + (wd - 1)))]) ∧ 0 ≤ st + (wd - 1) - 1 ∧ st + (wd - 1) - 1 ≤ (y.length : Int) ∧ (wl ++ [Txt.slice y (some st) (some (st + (wd - 1)))]).length ≤ ws₀.length + (st + (wd - 1) - 1).toNat := by
  obtain ⟨k, n, rfl, h1, h2, h3, h5⟩ := hC.more hw h
  obtain ⟨W, rfl⟩ : ∃ W : Nat, wd = W := ⟨wd.toNat, by omega⟩
  simp only [Int.toNat_natCast] at *
  have hW : 4 ≤ W := by omega
  rw [show (k : Int) + ((W : Int) - 1) - 2 = ((k + (W - 3) : Nat) : Int) by omega] at hi
  rw [show (k : Int) + ((W : Int) - 1) - 1 = ((k + (W - 2) : Nat) : Int) by omega] at hj ⊢
  rw [show (k : Int) + ((W : Int) - 1) = ((k + (W - 1) : Nat) : Int) by omega]
  obtain ⟨c, hc, hc'⟩ := cutAt (y := y) (k := k) (d := W - 3) (by omega)
  obtain ⟨d, hd, hd'⟩ := cutAt (y := y) (k := k) (d := W - 2) (by omega)
  rw [hc', eqs_mk, mk_eq] at hi
  rw [hd', eqs_mk, mk_eq] at hj
  have hc61 : ¬ c = 61 := by simpa using hi
  have hd61 : d = 61 := by simpa using hj
  subst hd61
  have hl : (y.cps.toList.drop k).length = y.length - k := by rw [List.length_drop]; rfl
  rw [slice_mk (by omega) (by omega), show k + (W - 1) - k = W - 1 by omega]
  rw [cutF, if_neg (by omega), if_neg (by rw [hc]; intro q; exact hc61 (Option.some.inj q)), if_pos hd, List.map_cons, List.drop_drop] at h5
  refine ⟨⟨k + (W - 2), n, rfl, by omega, by omega, by omega, by simp only [List.length_append, List.length_cons, List.length_nil]; omega, ?_⟩, by omega, by omega, by simp only [List.length_append, List.length_cons, List.length_nil]; omega⟩
  rw [List.append_assoc]
  exact h5
theorem Cut.three (hC : Cut wd.toNat e y ws₀ st wl) (hw : 4 ≤ wd ∧ wd ≤ 1000) (h : st ≤ (y.length : Int) - 1 - wd) (hb : wl.length ≤ ws₀.length + st.toNat) (hi : (Txt.item y (st + (wd - 1) - 2) == Str.ofString "=") = false) (hj : (Txt.item y (st + (wd - 1) - 1) == Str.ofString "=") = false) :
    Cut wd.toNat e y ws₀ (st + (wd - 1)) (wl ++ [Txt.slice y (some st) (some (st + (wd - 1))) ++ Str.ofString "="]) ∧ 0 ≤ st + (wd - 1) ∧ st + (wd - 1) ≤ (y.length : Int) ∧ (wl ++ [Txt.slice y (some st) (some (st + (wd - 1))) ++ Str.ofString "="]).length ≤ ws₀.length + (st + (wd - 1)).toNat := by
  obtain ⟨k, n, rfl, h1, h2, h3, h5⟩ := hC.more hw h
  obtain ⟨W, rfl⟩ : ∃ W : Nat, wd = W := ⟨wd.toNat, by omega⟩
  simp only [Int.toNat_natCast] at *
  have hW : 4 ≤ W := by omega
  rw [show (k : Int) + ((W : Int) - 1) - 2 = ((k + (W - 3) : Nat) : Int) by omega] at hi
  rw [show (k : Int) + ((W : Int) - 1) - 1 = ((k + (W - 2) : Nat) : Int) by omega] at hj
  rw [show (k : Int) + ((W : Int) - 1) = ((k + (W - 1) : Nat) : Int) by omega]
  obtain ⟨c, hc, hc'⟩ := cutAt (y := y) (k := k) (d := W - 3) (by omega)
  obtain ⟨d, hd, hd'⟩ := cutAt (y := y) (k := k) (d := W - 2) (by omega)
  rw [hc', eqs_mk, mk_eq] at hi
  rw [hd', eqs_mk, mk_eq] at hj
  have hc61 : ¬ c = 61 := by simpa using hi
  have hd61 : ¬ d = 61 := by simpa using hj
  have hl : (y.cps.toList.drop k).length = y.length - k := by rw [List.length_drop]; rfl
  rw [slice_mk (by omega) (by omega), show k + (W - 1) - k = W - 1 by omega, eqs_mk, mk_app]
  rw [cutF, if_neg (by omega), if_neg (by rw [hc]; intro q; exact hc61 (Option.some.inj q)), if_neg (by rw [hd]; intro q; exact hd61 (Option.some.inj q)), List.map_cons, List.drop_drop] at h5
  refine ⟨⟨k + (W - 1), n, rfl, by omega, by omega, by omega, by simp only [List.length_append, List.length_cons, List.length_nil]; omega, ?_⟩, by omega, by omega, by simp only [List.length_append, List.length_cons, List.length_nil]; omega⟩
  rw [List.append_assoc]
  exact h5
theorem Cut.end_ (hC : Cut wd.toNat e y ws₀ st wl) (h : ¬ st ≤ (y.length : Int) - 1 - wd) (hw : 4 ≤ wd) :
    ∃ k : Nat, st = k ∧ k ≤ y.length ∧ (1 ≤ y.length → k < y.length) ∧ wl ++ [mk (finR1 wd.toNat e (y.cps.toList.drop k))] = ws₀ ++ lineR wd.toNat e y := by
  obtain ⟨k, n, rfl, h1, h2, h3, h4, h5⟩ := hC
  refine ⟨k, rfl, h1, h2, ?_⟩
  have hl : (y.cps.toList.drop k).length = y.length - k := by rw [List.length_drop]; rfl
  rw [cutF_done (by omega)] at h5
  exact h5
end
theorem sp_mk : (Str.ofString " \t").cps.toList = [32, 9] := by decide +kernel
theorem last_sp {y : Str} (hy : (y.length : Int) ≠ 0) (h : (Builtin.Str.occurrences (Str.ofString " \t") (Txt.item y (-1)) 0 (Str.ofString " \t").length 1).isEmpty = false) :
    ∃ c, y.cps.toList.getLast? = some c ∧ Txt.item y (-1) = mk [c] ∧ (c = 32 ∨ c = 9) := by
  obtain ⟨c, h1, h2⟩ := item_last (y := y) (by omega)
  refine ⟨c, h1, h2, ?_⟩
  rw [h2] at h
  have := PySem.StrLaws.found_one (Str.ofString " \t") c
  rw [sp_mk] at this
  have e : (mk [c] : Str) = ⟨#[c]⟩ := rfl
  rw [e] at h
  rw [h] at this
  have h3 : c ∈ [32, 9] := of_decide_eq_true (by simpa using this.symm)
  simpa using h3
theorem last_no {y : Str} (hy : (y.length : Int) ≠ 0) (h : (Builtin.Str.occurrences (Str.ofString " \t") (Txt.item y (-1)) 0 (Str.ofString " \t").length 1).isEmpty = true) :
    ∃ c, y.cps.toList.getLast? = some c ∧ c ≠ 32 ∧ c ≠ 9 := by
  obtain ⟨c, h1, h2⟩ := item_last (y := y) (by omega)
  refine ⟨c, h1, ?_⟩
  rw [h2] at h
  have := PySem.StrLaws.found_one (Str.ofString " \t") c
  rw [sp_mk] at this
  have e : (mk [c] : Str) = ⟨#[c]⟩ := rfl
  rw [e] at h
  rw [h] at this
  have h3 : ¬ c ∈ [32, 9] := of_decide_eq_false (by simpa using this.symm)
  simpa using h3
theorem quote_i {w : World} {dp un : Nat} {fr : Option (List Env)} {gd : Option (List Code)} {s : Shared} {mean : ExcName → Option Value} {mg mb : Str → Option Value} {y : Str} {t : Tok}
    (hy : (y.length : Int) ≠ 0) (h : (Builtin.Str.occurrences (Str.ofString " \t") (Txt.item y (-1)) 0 (Str.ofString " \t").length 1).isEmpty = false)
    (X : (Kf w.params).In s.heap) (T : Top qv (looseW qv lo) mean mg mb s.heap) (hd : dp + 1 < recursionLimit) (hu : un + 8 < cLine) :
    wpAny (model PySem.Challenge.rw_rw0035_01.prog w) (top9 dp un fr gd) (call (.ref 81) [.str (Txt.item y (-1)) t]) (Post9 s fun v _ => ∃ t', v = .str (mk (qS (y.cps.toList.getLastD 0))) t') No9 s := by
  obtain ⟨c, h1, h2, h3⟩ := last_sp hy h
  rw [h2, List.getLastD_eq_getLast?, h1]
  exact quote_c c t X T hd hu h3
section
variable {e : List Nat} {y : Str} {ws wl pre : List Str} {st wd : Int} {row : Str}
theorem fin_out (hP : Hid9 (ws = pre.flatMap (lineR wd.toNat e) ∧ ws.length ≤ (pre.map (·.length)).sum + pre.length)) (hC : Cut wd.toNat e y ws st wl) (hn : ¬ st ≤ (y.length : Int) - 1 - wd) (hw : 4 ≤ wd ∧ wd ≤ 1000) (hst : st ≤ (y.length : Int)) (hb : wl.length ≤ ws.length + st.toNat)
    (hrow : ∀ k : Nat, st = k → k ≤ y.length → (1 ≤ y.length → k < y.length) → row = mk (finR1 wd.toNat e (y.cps.toList.drop k))) :
    wl ++ [row] = (pre ++ [y]).flatMap (lineR wd.toNat e) ∧ (wl ++ [row]).length ≤ ((pre ++ [y]).map (·.length)).sum + (pre ++ [y]).length := by
  obtain ⟨k, hk, h1, h2, h3⟩ := hC.end_ hn hw.1
  obtain ⟨hP1, hP2⟩ := hP.out
  refine ⟨?_, ?_⟩
  · rw [hrow k hk h1 h2, h3, hP1]
    simp
  · simp only [List.length_append, List.length_cons, List.length_nil, List.map_append, List.map_cons, List.map_nil, List.sum_append, List.sum_cons, List.sum_nil]
    omega
theorem row0 (h : (y.length : Int) = 0) : ∀ k : Nat, st = k → k ≤ y.length → (1 ≤ y.length → k < y.length) → Txt.slice y (some st) none = mk (finR1 wd.toNat e (y.cps.toList.drop k)) := by
  rintro k rfl h1 _
  rw [slice_from h1]
  have hl : y.cps.toList.length = y.length := rfl
  have : y.cps.toList = [] := List.length_eq_zero_iff.mp (by omega)
  rw [this, List.drop_nil]
  unfold finR1
  rw [if_neg (by simp)]
theorem drop_last {k : Nat} (h : k < y.length) : (y.cps.toList.drop k).getLast? = y.cps.toList.getLast? := by
  have hl : y.cps.toList.length = y.length := rfl
  rw [List.getLast?_drop, if_neg (by omega)]
theorem rowP (hy : (y.length : Int) ≠ 0) (h : (Builtin.Str.occurrences (Str.ofString " \t") (Txt.item y (-1)) 0 (Str.ofString " \t").length 1).isEmpty = true) :
    ∀ k : Nat, st = k → k ≤ y.length → (1 ≤ y.length → k < y.length) → Txt.slice y (some st) none = mk (finR1 wd.toNat e (y.cps.toList.drop k)) := by
  rintro k rfl h1 h2
  rw [slice_from h1]
  obtain ⟨c, h3, h4, h5⟩ := last_no hy h
  unfold finR1
  rw [drop_last (h2 (by omega)), h3, if_neg (by rintro (q | q) <;> simp_all)]
theorem row3 (hw : 4 ≤ wd ∧ wd ≤ 1000) (hy : (y.length : Int) ≠ 0) (h : (Builtin.Str.occurrences (Str.ofString " \t") (Txt.item y (-1)) 0 (Str.ofString " \t").length 1).isEmpty = false) (hr : 3 ≤ st - ((y.length : Int) - 1 - wd)) :
    ∀ k : Nat, st = k → k ≤ y.length → (1 ≤ y.length → k < y.length) → Txt.slice y (some st) (some (-1)) ++ mk (qS (y.cps.toList.getLastD 0)) = mk (finR1 wd.toNat e (y.cps.toList.drop k)) := by
  rintro k rfl h1 h2
  have hk := h2 (by omega)
  obtain ⟨c, h3, h4, h5⟩ := last_sp hy h
  have hl : (y.cps.toList.drop k).length = y.length - k := by rw [List.length_drop]; rfl
  rw [slice_init hk, mk_app]
  unfold finR1
  rw [drop_last hk, List.getLastD_eq_getLast?, List.getLastD_eq_getLast?, drop_last hk, h3, if_pos (by rcases h5 with rfl | rfl <;> simp), if_pos (by omega)]
theorem row2 (hw : 4 ≤ wd ∧ wd ≤ 1000) (hy : (y.length : Int) ≠ 0) (h : (Builtin.Str.occurrences (Str.ofString " \t") (Txt.item y (-1)) 0 (Str.ofString " \t").length 1).isEmpty = false) (hr : ¬ 3 ≤ st - ((y.length : Int) - 1 - wd)) (hr2 : st - ((y.length : Int) - 1 - wd) = 2) :
    ∀ k : Nat, st = k → k ≤ y.length → (1 ≤ y.length → k < y.length) → Txt.slice y (some st) (some (-1)) ++ (Txt.item y (-1) ++ mk (61 :: e)) = mk (finR1 wd.toNat e (y.cps.toList.drop k)) := by
  rintro k rfl h1 h2
  have hk := h2 (by omega)
  obtain ⟨c, h3, h4, h5⟩ := last_sp hy h
  have hl : (y.cps.toList.drop k).length = y.length - k := by rw [List.length_drop]; rfl
  rw [slice_init hk, h4, mk_app, mk_app]
  unfold finR1
  rw [drop_last hk, List.getLastD_eq_getLast?, drop_last hk, h3, if_pos (by rcases h5 with rfl | rfl <;> simp), if_neg (by omega), if_pos (by omega)]
  rfl
theorem row1 (hw : 4 ≤ wd ∧ wd ≤ 1000) (hn : ¬ st ≤ (y.length : Int) - 1 - wd) (hy : (y.length : Int) ≠ 0) (h : (Builtin.Str.occurrences (Str.ofString " \t") (Txt.item y (-1)) 0 (Str.ofString " \t").length 1).isEmpty = false) (hr : ¬ 3 ≤ st - ((y.length : Int) - 1 - wd)) (hr2 : st - ((y.length : Int) - 1 - wd) ≠ 2) :
    ∀ k : Nat, st = k → k ≤ y.length → (1 ≤ y.length → k < y.length) → Txt.slice y (some st) (some (-1)) ++ (mk (61 :: e) ++ mk (qS (y.cps.toList.getLastD 0))) = mk (finR1 wd.toNat e (y.cps.toList.drop k)) := by
  rintro k rfl h1 h2
  have hk := h2 (by omega)
  obtain ⟨c, h3, h4, h5⟩ := last_sp hy h
  have hl : (y.cps.toList.drop k).length = y.length - k := by rw [List.length_drop]; rfl
  rw [slice_init hk, mk_app, mk_app]
  unfold finR1
  rw [drop_last hk, List.getLastD_eq_getLast?, List.getLastD_eq_getLast?, drop_last hk, h3, if_pos (by rcases h5 with rfl | rfl <;> simp), if_neg (by omega), if_neg (by omega)]
end
theorem finR1_len (w : Nat) (e r : List Nat) : (finR1 w e r).length ≤ r.length + e.length + 8 := by
  unfold finR1
  have : r.dropLast.length ≤ r.length := by rw [List.length_dropLast]; omega
  split
  · split
    · simp only [List.length_append, qS, List.length_cons, List.length_nil]; omega
    · split
      · simp only [List.length_append, List.length_cons, List.length_nil]; omega
      · simp only [List.length_append, qS, List.length_cons, List.length_nil]; omega
  · omega
theorem cutF_len (w : Nat) (e : List Nat) : ∀ (n : Nat) (r : List Nat), ∀ z ∈ cutF w e n r, z.length ≤ r.length + e.length + 8
  | 0, r, z, hz => by rw [cutF] at hz; rw [List.mem_singleton.mp hz]; exact finR1_len w e r
  | n + 1, r, z, hz => by
    rw [cutF] at hz
    split at hz
    · rw [List.mem_singleton.mp hz]; exact finR1_len w e r
    · split at hz
      · rcases List.mem_cons.mp hz with rfl | hz
        · rw [List.length_take]; omega
        · have := cutF_len w e n _ z hz; rw [List.length_drop] at this; omega
      · split at hz
        · rcases List.mem_cons.mp hz with rfl | hz
          · rw [List.length_take]; omega
          · have := cutF_len w e n _ z hz; rw [List.length_drop] at this; omega
        · rcases List.mem_cons.mp hz with rfl | hz
          · rw [List.length_append, List.length_take]; simp only [List.length_cons, List.length_nil]; omega
          · have := cutF_len w e n _ z hz; rw [List.length_drop] at this; omega
noncomputable def lineC (w : Nat) (e : List Nat) (y : Str) : List (List Nat) := cutF w e y.length y.cps.toList
noncomputable def lastNL (l : List Nat) : Bool := l.getLast? == some 13 || l.getLast? == some 10
noncomputable def rowsB (w : Nat) (e b : List Nat) : List (List Nat) := (Txt.lines (mk (b.flatMap encN))).flatMap (lineC w e) ++ (if lastNL (b.flatMap encN) = true then [[]] else [])
noncomputable def beF (b : List Nat) (wd : Int) (e : List Nat) : List Nat := joinL e (rowsB wd.toNat e b)
theorem lineR_map (w : Nat) (e : List Nat) : ∀ xs : List Str, xs.flatMap (lineR w e) = (xs.flatMap (lineC w e)).map mk
  | [] => rfl
  | x :: xs => by rw [List.flatMap_cons, List.flatMap_cons, List.map_append, lineR_map w e xs]; rfl
theorem nl_mk : (Str.ofString "\r\n").cps.toList = [13, 10] := by decide +kernel
theorem nl_fact {l : List Nat} (hl : 1 ≤ l.length) : (Builtin.Str.occurrences (Str.ofString "\r\n") (Txt.item (mk l) (-1)) 0 (Str.ofString "\r\n").length 1).isEmpty = !lastNL l := by
  have hm : (mk l).cps.toList = l := by simp [mk]
  obtain ⟨c, h1, h2⟩ := item_last (y := mk l) (by rw [mk_len]; exact hl)
  rw [hm] at h1
  rw [h2]
  have := PySem.StrLaws.found_one (Str.ofString "\r\n") c
  rw [nl_mk] at this
  have e : (mk [c] : Str) = ⟨#[c]⟩ := rfl
  rw [e]
  have h3 : lastNL l = decide (c ∈ [13, 10]) := by
    unfold lastNL
    rw [h1]
    by_cases q1 : c = 13
    · subst q1; rfl
    · by_cases q2 : c = 10
      · subst q2; rfl
      · simp [q1, q2]
  rw [h3, ← this]
  simp
theorem be_join {wd : Int} {e b : List Nat} {ws : List Str} (h : Hid9 (ws = (Txt.lines (mk (b.flatMap encN))).flatMap (lineR wd.toNat e))) (hn : lastNL (b.flatMap encN) = false) : Txt.join (mk e) ws = mk (beF b wd e) := by
  unfold beF rowsB
  rw [h.out, lineR_map, join_mk, if_neg (by rw [hn]; exact Bool.false_ne_true), List.append_nil]
theorem be_joinN {wd : Int} {e b : List Nat} {ws : List Str} (h : Hid9 (ws = (Txt.lines (mk (b.flatMap encN))).flatMap (lineR wd.toNat e))) (hn : lastNL (b.flatMap encN) = true) : Txt.join (mk e) (ws ++ [Str.ofString ""]) = mk (beF b wd e) := by
  unfold beF rowsB
  rw [h.out, lineR_map, empty_mk, if_pos hn, ← join_mk, List.map_append]
  rfl
theorem ws_short {wd : Int} {e b : List Nat} {ws : List Str} (h : Hid9 (ws = (Txt.lines (mk (b.flatMap encN))).flatMap (lineR wd.toNat e))) (he : e.length ≤ 5) (hb : (b.flatMap encN).length ≤ 180) : ∀ z ∈ ws, z.length ≤ 200 := by
  intro z hz
  rw [h.out, lineR_map] at hz
  obtain ⟨q, hq, rfl⟩ := List.mem_map.mp hz
  obtain ⟨y, hy, hq⟩ := List.mem_flatMap.mp hq
  have h1 := cutF_len _ _ _ _ q hq
  have h2 := line_short hy
  rw [mk_len] at h2 ⊢
  have h3 : y.cps.toList.length = y.length := rfl
  omega
theorem ws_total {wd : Int} {e b : List Nat} {ws : List Str} (h : Hid9 (ws = (Txt.lines (mk (b.flatMap encN))).flatMap (lineR wd.toNat e))) (he : e.length ≤ 5) (hb : (b.flatMap encN).length ≤ 180) (hw : ws.length ≤ 200) : (ws.map (·.length)).sum + ws.length * (mk e).length ≤ 16777216 := by
  have h1 := PySem.StrLaws.sumLen_le (B := 200) ws (ws_short h he hb)
  rw [mk_len]
  have h2 : ws.length * e.length ≤ 200 * 5 := Nat.mul_le_mul hw he
  omega
theorem ws_totalN {wd : Int} {e b : List Nat} {ws : List Str} (h : Hid9 (ws = (Txt.lines (mk (b.flatMap encN))).flatMap (lineR wd.toNat e))) (he : e.length ≤ 5) (hb : (b.flatMap encN).length ≤ 180) (hw : ws.length ≤ 200) : ((ws ++ [Str.ofString ""]).map (·.length)).sum + (ws ++ [Str.ofString ""]).length * (mk e).length ≤ 16777216 := by
  have h1 := PySem.StrLaws.sumLen_le (B := 200) ws (ws_short h he hb)
  have h2 : (ws.length + (0 + 1)) * e.length ≤ 201 * 5 := Nat.mul_le_mul (by omega) he
  rw [empty_mk]
  simp only [List.map_append, List.map_cons, List.map_nil, List.sum_append, List.sum_cons, List.sum_nil, List.length_append, List.length_cons, List.length_nil, mk_len]
  omega
theorem join_txt {w : World} {A : Around} {s : Shared} {E Q : Value → Shared → Prop} {h₀ : Heap} {L D : Addr} {news : List (Addr × Obj)} {vs : List Value} {ys : List Str} {x : Str} {n : Nat} {t : Tok}
    (N : News h₀ L s.heap news) (hm : (D, listOf vs.toArray n) ∈ news) (hi : StrsAre vs ys) (hs : (ys.map (·.length)).sum + ys.length * x.length ≤ 16777216) (h : ∀ t' k, Q (.str (Txt.join x ys) t') { s with toks := k }) :
    wpAny (model PySem.Challenge.rw_rw0035_01.prog w) A (call (.builtin "str.join") [.str x t, .ref D]) Q E s := join_list ⟨_, (N _ hm).1, rfl, n, rfl⟩ hi hs h
theorem AP.ne_of_cls {h : Heap} {D x l : Addr} {a : Array Value} {n : Nat} (h1 : h.get? D = some { cls := .type "list", data := .seq a n }) (h2 : h.get? x = some (AP.bound l)) : x ≠ D := by
  intro q
  rw [q, h1] at h2
  simp [AP.bound] at h2
section
variable {prog : Program} {w : World} {A : Around} {E : Value → Shared → Prop} {s : Shared} {env : Env} {h₀ : Heap} {x : Str} {body : List Stmt} {Q : Flow → Shared → Prop}
noncomputable abbrev beLed (xA lA : Addr) (c : List Value × List Str × Nat) : List (Addr × Obj) := [(xA, AP.bound lA), (lA, listOf c.1.toArray c.2.2)]
noncomputable abbrev beStored : List Str := [Str.ofString "line", Str.ofString "start", Str.ofString "laststart", Str.ofString "stop", Str.ofString "room", Str.ofString "q"]
theorem be_loop {D xA lA : Addr} {n : Nat} {items : List Value} {xs : List Str} {m₀ : Str → Option Value} (P : List Str → List Str → Prop)
    (hh : A.handled = none) (hi : StrsAre items xs) (F : Fr h₀ env.locals s.heap m₀) (N : News h₀ env.locals s.heap [(D, { cls := .type "list", data := .seq items.toArray n }), (xA, AP.bound lA), (lA, listOf #[] 0)]) (hxD : xA ≠ D) (hlD : lA ≠ D) (hp : P [] [])
    (turn : ∀ (vs : List Value) (ws : List Str) (k : Nat) (pre post : List Str) (y : Str) t (u : Str → Option Value) h tk own, xA ≠ lA → xs = pre ++ y :: post → OwnOff own [xA, lA] → StrsAre vs ws → P pre ws →
      Fr h₀ env.locals h (fun z => if z = x then some (.str y t) else if beStored.contains z then u z else m₀ z) → News h₀ env.locals h ([(xA, AP.bound lA), (lA, listOf vs.toArray k)] ++ own) →
      wpAny (model prog w) A (execs body env) (InvPostN h₀ env.locals (KstS (beLed xA lA) (fun _ => []) (fun c => StrsAre c.1 c.2.1) x beStored m₀ (fun _ c => P (pre ++ [y]) c.2.1) []) own [xA, lA] { s with heap := h, toks := tk } Q) E { s with heap := h, toks := tk })
    (done : ∀ (vs : List Value) (ws : List Str) (k : Nat) (u : Str → Option Value) h tk, xA ≠ lA → StrsAre vs ws → P xs ws → Fr h₀ env.locals h (fun z => if z = x then u z else if beStored.contains z then u z else m₀ z) → News h₀ env.locals h [(xA, AP.bound lA), (lA, listOf vs.toArray k)] → Q .next { s with heap := h, toks := tk }) :
    wpAny (model prog w) A (pyIter (.ref D)) (fun it s₂ => LoopAtV prog w A h₀ env x body Q E it s₂) E s := by
  have hne : xA ≠ lA := by
    intro q
    have h1 := (N _ (.tail _ (.head _))).1
    have h2 := (N _ (.tail _ (.tail _ (.head _)))).1
    simp only [q] at h1 h2
    rw [h1] at h2
    simp [AP.bound, W.listOf] at h2
  refine TX.loop (beLed xA lA) (fun _ => []) (fun c => StrsAre c.1 c.2.1) beStored (fun pre c => P pre c.2.1) ([], [], 0) hh ⟨_, (N _ (.head _)).1, rfl, n, rfl⟩ (N _ (.head _)).2.1 hi F (fun p hp => N p (.tail _ hp)) ?_ .nil (fun _ hp => nomatch hp) hp ?_ ?_
  · intro p hp
    rcases List.mem_cons.mp hp with rfl | hp
    · exact hxD
    · rw [List.mem_singleton.mp hp]
      exact hlD
  · rintro ⟨vs, ws, k⟩ pre post y t u h tk own e hoff hf hp' F' N'
    exact turn vs ws k pre post y t u h tk own hne e hoff hf hp' F' N'
  · rintro ⟨vs, ws, k⟩ u h tk hf hp' F' N'
    exact done vs ws k u h tk hne hf hp' F' N'
end
theorem truthyM {w : World} {A : Around} {s : Shared} {Q : Bool → Shared → Prop} {E : Value → Shared → Prop} {b : List Nat} {t : Tok} (hb : 1 ≤ b.length ∧ b.length ≤ 60) (h : ∀ k, Q true { s with toks := k }) : wpAny (model PySem.Challenge.rw_rw0035_01.prog w) A (truthy (.str (mk b) t)) Q E s :=
  PySem.P.truthy_str (by rw [mk_len]; omega) (by rw [show (((mk b).length : Int) != 0) = true from bne_iff_ne.mpr (by rw [mk_len]; omega)]; exact h _)
local macro_rules | `(tactic| walk_at "truthy str") => `(tactic| ((with_reducible refine truthyM ?hh ?_); (case hh => assumption); intro k))
theorem q83_is (c : Nat) : ∃ u, q83 c = .str (mk (encN c)) u := by
  unfold q83 encN q68
  cases h1 : Nat.beq c 13
  · cases h2 : Nat.beq c 10
    · cases h3 : inR 32 60 c
      · cases h4 : inR 62 126 c
        · cases h5 : Nat.beq c 9
          · exact ⟨_, rfl⟩
          · exact ⟨_, rfl⟩
        · exact ⟨_, rfl⟩
      · exact ⟨_, rfl⟩
    · exact ⟨_, rfl⟩
  · exact ⟨_, rfl⟩
theorem tab83 {P : Params} {h : Heap} (X : (Kf P).In h) : h.IsList 83 (Array.mk ((List.range 256).map q83)) := ⟨_, X 83 (o83_30 P) (by k_is), rfl, 0, rfl⟩
theorem translateM {w : World} {A : Around} {s : Shared} {h₀ : Heap} {L : Addr} {m : Str → Option Value} {Q : Value → Shared → Prop} {E : Value → Shared → Prop} {b : List Nat} {t : Tok} (X : (Kf w.params).In h₀) (F : Fr h₀ L s.heap m) (hb : 1 ≤ b.length ∧ b.length ≤ 60) (hc : ∀ c ∈ b, c < 256)
    (h : ∀ tk tk', Q (.str (mk (b.flatMap encN)) tk) { s with toks := tk' }) : wpAny (model PySem.Challenge.rw_rw0035_01.prog w) A (call (.builtin "str.translate") [.str (mk b) t, .ref 83]) Q E s := by
  have hb' : (mk b).cps.toList = b := by simp [mk]
  refine call_translate (f := fun c => mk (encN c)) (tab83 (X.keeps F.keep)) (fun c hm => ?_) (by rw [mk_len]; omega) fun tk tk' => ?_
  · rw [hb'] at hm
    refine ⟨hc c hm, encN_len c, ?_⟩
    obtain ⟨u, hu⟩ := q83_is c
    exact ⟨u, by rw [← hu]; simp [hc c hm]⟩
  · have e : (⟨(((mk b).cps.toList.flatMap fun c => (mk (encN c)).cps.toList).toArray)⟩ : Str) = mk (b.flatMap encN) := by rw [hb']; simp [mk]
    rw [e]
    exact h tk tk'
local macro_rules | `(tactic| walk_at "getMethod str") => `(tactic| (with_reducible refine gm_translate ?_))
local macro_rules | `(tactic| walk_at "call builtin:str.translate") => `(tactic| ((with_reducible rename Fr _ _ _ _ => trF); refine' translateM ?xx trF ?hb ?hc ?_; (case xx | hb | hc => assumption); intro tk9 tk9'))
local macro_rules | `(tactic| walk_at "binaryOp Add str str") => `(tactic| ((with_reducible show wpAny _ _ (binaryOp Operator.Add (Value.str _ _) (Value.str _ _)) _ _ _); (refine' PyProof.Rows.add_str ?_ ?hs; case hs => (try simp only [mk_len, qS, eqs_mk, PySem.Str.length_append, List.length_append, List.length_cons, List.length_nil]); rw [PySem.sizeLine_eq]; omega); intro t9 k9))
theorem add_eqs {w : World} {A : Around} {s : Shared} {E Q : Value → Shared → Prop} {a : List Nat} {t u : Tok} (hs : a.length ≤ 5) (h : ∀ t' k, Q (.str (mk (61 :: a)) t') { s with toks := k }) :
    wpAny (model PySem.Challenge.rw_rw0035_01.prog w) A (binaryOp .Add (.str (Str.ofString "=") u) (.str (mk a) t)) Q E s :=
  PyProof.Rows.add_str (fun t' k => by rw [eq_mk, mk_app]; exact h t' k) (by rw [eq_mk, mk_len, mk_len, PySem.sizeLine_eq]; simp only [List.length_cons, List.length_nil]; omega)
local macro_rules | `(tactic| walk_at "binaryOp Add str str") => `(tactic| ((with_reducible show wpAny _ _ (binaryOp Operator.Add (Value.str (Str.ofString "=") _) (Value.str (mk _) _)) _ _ _); (refine' add_eqs ?hs ?_; case hs => assumption); intro t9 k9))
local macro_rules | `(tactic| walk_at "getAttr ref") => `(tactic| ((with_reducible show wpAny _ _ (getAttr (Value.ref _) (Str.ofString "append") _) _ _ _); (with_reducible rename Fr _ _ _ _ => apF); (with_reducible rename News _ _ _ _ => apN); refine append_N apF apN (by first | exact .head _ | exact .tail _ (.head _)) ?_; intro x9 h9 tk9 F9 N9))
theorem sl1 {b : List Nat} (hb : 1 ≤ b.length ∧ b.length ≤ 60) : (mk (b.flatMap encN)).length + 2 ≤ sizeLine := by
  have h : ∀ l : List Nat, (l.flatMap encN).length ≤ 3 * l.length := fun l => by
    induction l with
    | nil => simp
    | cons c l ih =>
      have := encN_len c
      rw [mk_len] at this
      rw [List.flatMap_cons, List.length_append, List.length_cons]
      omega
  have := h b
  rw [mk_len, PySem.sizeLine_eq]
  omega
local macro_rules | `(tactic| walk_at "call builtin:str.splitlines") => `(tactic| ((with_reducible rename Fr _ _ _ _ => F'); (with_reducible rename News _ _ _ _ => N'); refine splitlinesNA (hsz := ?hsz) F' N' ?_; (case hsz => exact sl1 (by assumption)); intro l9 h9 k9 e9 F9 N9 a9 b9 c9))
local macro_rules | `(tactic| walk_at "callWith ref") => `(tactic| (k_here; (with_reducible show wpAny _ _ (callWith _ (Value.ref _) _ (backTo _ (starEach (_ :: _) _)) []) _ _ _); (with_reducible rename News _ _ _ _ => apN); refine AP.callWith_bound apN (by first | (with_reducible exact List.Mem.head _) | (with_reducible exact List.Mem.tail _ (List.Mem.head _)) | k_mem) ?_))
local macro_rules | `(tactic| walk_at "StandsAt") => `(tactic| ((with_reducible show AP.StandsAt _ _ _); (with_reducible rename News _ _ _ _ => apN); exact AP.at_of apN (by k_mem)))
local macro_rules | `(tactic| walk_at "call ref") => `(tactic| (k_here; (with_reducible show wpAny _ _ (call (Value.ref _) [_] []) _ _ _); k_dflt (refine' AP.call_boundN ?k1 ?k2 ?km ?k3 ?kz ?_; (case k1 | k2 => k_asm); (case km => k_mem); (case k3 => k_upd); (case kz => (try simp only [List.size_toArray]); omega); k_whole); intro h' F' N'; try k_sweep))
noncomputable def Stop9 (p : Prop) : Prop := p
theorem stop9 {p : Prop} (h : Stop9 p) : p := h
local macro_rules | `(tactic| walk_at "KswPost") => `(tactic| (dsimp only [KswPost]; refine stop9 ?_))
local macro_rules | `(tactic| walk_at "InvPostN") => `(tactic| (dsimp only [InvPostN]; refine stop9 ?_))
local macro_rules | `(tactic| walk_at "be_wend") => `(tactic| ((with_reducible show KswEnd _ _ _ _ _ _ _ _ _ _ _ _); (with_reducible rename News _ _ _ _ => nE'); (with_reducible rename Fr _ _ _ _ => fE'); (try simp only [List.push_toArray] at nE'); refine ksw_end ⟨_, _, _, _, _⟩ fE' nE' (by ((try dsimp only); exact List.forall_mem_cons.mpr ⟨List.Mem.head _, List.forall_mem_cons.mpr ⟨List.Mem.tail _ (List.Mem.head _), fun p hp => List.Mem.tail _ (List.Mem.tail _ hp)⟩⟩)) (by exact PyProof.Rows.StrsAre.append' (by with_reducible assumption) (.cons _ _ .nil)) (by kst_all) (by ksw_same) (by ((try dsimp only); walk_at "be_cut")) (by ksw_less)))
local macro_rules | `(tactic| walk_at "be_iend") => `(tactic| ((with_reducible show InvEndN _ _ _ _ _ _ _); (with_reducible rename News _ _ _ _ => nE'); (with_reducible rename Fr _ _ _ _ => fE'); (try simp only [List.push_toArray] at nE'); refine kst_end ⟨_, _, _⟩ fE' nE' (by ((try dsimp only); exact List.forall_mem_cons.mpr ⟨List.Mem.head _, List.forall_mem_cons.mpr ⟨List.Mem.tail _ (List.Mem.head _), List.forall_mem_nil _⟩⟩)) (by exact fun p hp => List.Mem.tail _ (List.Mem.tail _ hp)) (by rfl) (by exact PyProof.Rows.StrsAre.append' (by with_reducible assumption) (.cons _ _ .nil)) (by exact fun _ h => nomatch h) (by kst_same) (by ((try dsimp only); walk_at "be_fin"))))
local macro_rules | `(tactic| walk_at "be_fin") => `(tactic| ((with_reducible rename Cut _ _ _ _ _ _ => hCu); (with_reducible rename (¬ _ ≤ _ - 1 - _) => hNl); (with_reducible rename (_ ≤ ((Str.length _ : Nat) : Int)) => hSl); (with_reducible rename (List.length _ ≤ List.length _ + Int.toNat _) => hBl); (with_reducible rename (4 ≤ _ ∧ _ ≤ 1000) => hWd); (with_reducible rename Hid9 _ => hPP); (first
  | (exact fin_out hPP hCu hNl hWd hSl hBl (row1 hWd hNl (by with_reducible assumption) (by with_reducible assumption) (by with_reducible assumption) (by with_reducible assumption)))
  | (exact fin_out hPP hCu hNl hWd hSl hBl (row2 hWd (by with_reducible assumption) (by with_reducible assumption) (by with_reducible assumption) (by with_reducible assumption)))
  | (exact fin_out hPP hCu hNl hWd hSl hBl (row3 hWd (by with_reducible assumption) (by with_reducible assumption) (by with_reducible assumption)))
  | (exact fin_out hPP hCu hNl hWd hSl hBl (rowP (by with_reducible assumption) (by with_reducible assumption)))
  | (exact fin_out hPP hCu hNl hWd hSl hBl (row0 (by with_reducible assumption))))))
local macro_rules | `(tactic| walk_at "be_cut") => `(tactic| ((with_reducible rename (4 ≤ _ ∧ _ ≤ 1000) => hWd); (first
  | exact Cut.one (by with_reducible assumption) hWd (by with_reducible assumption) (by with_reducible assumption) (by with_reducible assumption)
  | exact Cut.two (by with_reducible assumption) hWd (by with_reducible assumption) (by with_reducible assumption) (by with_reducible assumption) (by with_reducible assumption)
  | exact Cut.three (by with_reducible assumption) hWd (by with_reducible assumption) (by with_reducible assumption) (by with_reducible assumption) (by with_reducible assumption))))
local macro_rules | `(tactic| walk_at "call ref") => `(tactic| ((with_reducible show wpAny _ _ (call (Value.ref 81) [Value.str (Txt.item _ (-1)) _] []) _ _ _); k_dflt (refine' useS (quote_i ?q1 ?q2 (Frag.In.keeps ?X (Fr.keep ?F)) (Top.keeps ?T (Fr.keep ?F)) ?d ?u) ?F2 ?N ?_; (case F | F2 => k_asm); (case X | T => assumption); (case N => k_asm); (case d | u => walk_at "m_room"); case q1 | q2 => with_reducible assumption); intro t' h' tk' F' N'))
local macro_rules | `(tactic| walk_at "call builtin:str.join") => `(tactic| refine stop9 ?_)
theorem be_c {w : World} {dp un : Nat} {fr : Option (List Env)} {gd : Option (List Code)} {s : Shared} {mean : ExcName → Option Value} {mg mb : Str → Option Value} (b e : List Nat) (wd : Int) (t t2 t3 : Tok)
    (X : (Kf w.params).In s.heap) (T : Top qv (looseW qv lo) mean mg mb s.heap) (hd : dp + 4 < recursionLimit) (hu : un + 80 < cLine) (hb : 1 ≤ b.length ∧ b.length ≤ 60) (hbc : ∀ c ∈ b, c < 256) (he : e.length ≤ 5) (hw : 4 ≤ wd ∧ wd ≤ 1000) :
    wpAny (model PySem.Challenge.rw_rw0035_01.prog w) (top9 dp un fr gd) (call (.ref 94) [.str (mk b) t, .int wd t2, .str (mk e) t3]) (Post9 s fun v _ => ∃ t', v = .str (mk (beF b wd e)) t') No9 s := by
  (k_dflt (refine' enter9 ?x1 ?x2 ?o1 ?o2 ?o3 ?o4 ?o5 ?o6 ?o7 ?o8 ?o9 ?_; (case x1 => assumption); (case x2 => assumption); (case o1 => k_is); (case o2 => k_is); (case o3 => walk_at "m_room"); (case o4 => exact binds_K X rfl (by k_is) rfl rfl rfl); (case o5 => exact rfl); (case o6 => decide); (case o7 => rfl); (case o8 => rfl); (case o9 => rfl)); intro L h₁ tk F N; (try k_fold))
  k_steps
  with_reducible rename StrsAre _ _ => hSA
  with_reducible rename (List.map _ _ = Txt.lines _) => hLn
  with_reducible rename (∀ a ∈ _, Str.length a ≤ _) => hLe
  with_reducible rename Fr _ _ _ _ => F9
  with_reducible rename News _ _ _ _ => N9
  have hwt := PySem.StrLaws.lines_weight (mk (b.flatMap encN))
  rw [← hLn, mk_len] at hwt
  have hbl := enc_len b
  k_with_none
  k_with "measure" => omega
  k_with "state" => exact ⟨Cut.start, by omega, by omega, by omega⟩
  k_with "exec While Compare cons nil" => k_while (fun _ st wl => Cut wd.toNat e y ws st wl ∧ 0 ≤ st ∧ st ≤ (y.length : Int) ∧ wl.length ≤ ws.length + st.toNat) (fun _ st _ => ((y.length : Int) - st).toNat) "start" "encoded_body$"
  refine be_loop (fun pre ws => ws = pre.flatMap (lineR wd.toNat e) ∧ ws.length ≤ (pre.map (·.length)).sum + pre.length) rfl hSA F9 N9 ?_ ?_ ⟨rfl, Nat.le_refl _⟩ ?_ ?_
  · exact AP.ne_of_cls (N9 _ (.head _)).1 (N9 _ (.tail _ (.head _))).1
  · with_reducible rename News _ _ _ [(_, AP.bound _), _] => N0
    have N1 := (N0 _ (.tail _ (.head _))).1
    exact Nat.ne_of_lt (Heap.lt_size N1)
  · intro vs ws n pre post y ty u h' tk' own hne hxs kOff hws hP kFr kNews
    have kMark := kstMark
    obtain ⟨hPe, hPl⟩ := hP
    have hyl : y.length + ws.length ≤ 180 := by
      rw [hxs] at hwt
      simp only [List.map_append, List.map_cons, List.sum_append, List.sum_cons, List.length_append, List.length_cons] at hwt
      omega
    have hvl := hws.length
    have hPP := Hid9.mk (And.intro hPe hPl)
    clear hLe hwt hPe hPl hSA hLn F9 N9 hxs
    simp only [List.cons_append, List.nil_append] at kNews
    k_steps
    all_goals (try unfold Stop9)
    all_goals (first | walk_at "be_wend" | walk_at "be_iend")
  · intro vs ws n u h' tk' hne hws hP kFr kNews
    have hPP := Hid9.mk (hP.1.trans (by rw [hLn]))
    have hwl : ws.length ≤ 200 := by have := hP.2; omega
    have hvl := hws.length
    have hml : 1 ≤ (mk (b.flatMap encN)).length ∧ (mk (b.flatMap encN)).length ≤ 180 := by rw [mk_len]; exact ⟨enc_pos hb.1, by omega⟩
    have hfl : (b.flatMap encN).length ≤ 180 := by omega
    clear hLe hwt hP hSA hLn F9 N9 hbl
    k_steps
    all_goals unfold Stop9
    all_goals (with_reducible rename News _ _ _ _ => jN9)
    all_goals (try simp only [List.push_toArray] at jN9)
    all_goals (with_reducible rename Hid9 _ => jP9)
    all_goals (with_reducible rename (List.isEmpty _ = _) => jE9)
    all_goals (rw [nl_fact (enc_pos hb.1)] at jE9)
    · refine join_txt jN9 (.tail _ (.head _)) hws (ws_total jP9 he hfl hwl) ?_
      intro t9 k9
      with_reducible rename Fr _ _ _ _ => jF9
      exact ⟨Kp.of jF9, t9, by rw [be_join jP9 (by simpa using jE9)]⟩
    · refine join_txt jN9 (.tail _ (.head _)) (PyProof.Rows.StrsAre.append' hws (.cons _ _ .nil)) (ws_totalN jP9 he hfl hwl) ?_
      intro t9 k9
      with_reducible rename Fr _ _ _ _ => jF9
      exact ⟨Kp.of jF9, t9, by rw [be_joinN jP9 (by simpa using jE9)]⟩
end
section
noncomputable def parseS (x : Str) : Heard :=
  if (Txt.slice x none (some 3) != Str.ofString "229") = true then .reply
  else if Txt.find x (Str.ofString "(") < 0 then .proto
  else if Txt.find3 x (Str.ofString ")") (Txt.find x (Str.ofString "(") + 1) < 0 then .proto
  else if (Txt.item x (Txt.find x (Str.ofString "(") + 1) != Txt.item x (Txt.find3 x (Str.ofString ")") (Txt.find x (Str.ofString "(") + 1) - 1)) = true then .proto
  else if (((Txt.split (Txt.slice x (some (Txt.find x (Str.ofString "(") + 1)) (some (Txt.find3 x (Str.ofString ")") (Txt.find x (Str.ofString "(") + 1)))) (Txt.item x (Txt.find x (Str.ofString "(") + 1))).length : Nat) : Int) = 5 then
    match PySem.intText? ((Txt.split (Txt.slice x (some (Txt.find x (Str.ofString "(") + 1)) (some (Txt.find3 x (Str.ofString ")") (Txt.find x (Str.ofString "(") + 1)))) (Txt.item x (Txt.find x (Str.ofString "(") + 1))).getD 3 default) with
    | some n => .peer n
    | none => .value
  else .proto
noncomputable abbrev part3 (x : Str) : Str := (Txt.split (Txt.slice x (some (Txt.find x (Str.ofString "(") + 1)) (some (Txt.find3 x (Str.ofString ")") (Txt.find x (Str.ofString "(") + 1)))) (Txt.item x (Txt.find x (Str.ofString "(") + 1))).getD 3 default
theorem part3_of {α : Type} {l : List (Str × α)} {p : List Str} {y : Str} (e : l.map (fun x => x.1) = p) (h : (l.map (fun x => x.1))[Int.toNat 3]? = some y) : p.getD 3 default = y := by
  subst e
  rw [List.getD_eq_getElem?_getD]
  have h' : (l.map (fun x => x.1))[3]? = some y := h
  rw [h']
  rfl
noncomputable def HeardIs : Heard → Value → List (Addr × Obj) → Prop
  | .reply, v, _ => ∃ t, v = .str (Str.ofString "reply") t
  | .proto, v, _ => ∃ t, v = .str (Str.ofString "proto") t
  | .value, v, _ => ∃ t, v = .str (Str.ofString "value") t
  | .peer n, v, news => ∃ D t u, v = .ref D ∧ (D, { cls := .type "tuple", data := .seq #[.str (Str.ofString "peer") t, .int n u] }) ∈ news
theorem heard_t {c : Prop} [Decidable c] {a b : Heard} {v : Value} {n : List (Addr × Obj)} (h : c) (k : HeardIs a v n) : HeardIs (if c then a else b) v n := by rw [if_pos h]; exact k
theorem heard_f {c : Prop} [Decidable c] {a b : Heard} {v : Value} {n : List (Addr × Obj)} (h : ¬ c) (k : HeardIs b v n) : HeardIs (if c then a else b) v n := by rw [if_neg h]; exact k
theorem heard_fb {c : Bool} {a b : Heard} {v : Value} {n : List (Addr × Obj)} (h : c = false) (k : HeardIs b v n) : HeardIs (if c = true then a else b) v n := by rw [h]; exact k
theorem heard_5 {α : Type} {l : List (Str × α)} {p : List Str} {a b : Heard} {v : Value} {n : List (Addr × Obj)} (e : l.map (fun x => x.1) = p) (h : (l.length : Int) = 5) (k : HeardIs a v n) : HeardIs (if ((p.length : Nat) : Int) = 5 then a else b) v n := by
  rw [← e, List.length_map, if_pos h]; exact k
theorem heard_5n {α : Type} {l : List (Str × α)} {p : List Str} {a b : Heard} {v : Value} {n : List (Addr × Obj)} (e : l.map (fun x => x.1) = p) (h : (l.length : Int) ≠ 5) (k : HeardIs b v n) : HeardIs (if ((p.length : Nat) : Int) = 5 then a else b) v n := by
  rw [← e, List.length_map, if_neg h]; exact k
local macro_rules | `(tactic| walk_at "m_res") => `(tactic| ((try unfold parseS); (repeat (first
  | ((with_reducible refine heard_fb ?hx ?_); (case hx => (with_reducible assumption)))
  | ((with_reducible refine heard_t ?hx ?_); (case hx => (with_reducible assumption)))
  | ((with_reducible refine heard_f ?hx ?_); (case hx => (with_reducible assumption)))
  | ((with_reducible refine' heard_5 ?hx ?hy ?_); (case hx => (with_reducible assumption)); (case hy => (with_reducible assumption)))
  | ((with_reducible refine' heard_5n ?hx ?hy ?_); (case hx => (with_reducible assumption)); (case hy => (with_reducible assumption)))))))
theorem par_mk : Str.ofString ")" = mk [41] := by decide +kernel
theorem add_par {w : World} {A : Around} {s : Shared} {E Q : Value → Shared → Prop} {a : List Nat} {t u : Tok} (hs : a.length ≤ 1000) (h : ∀ t' k, Q (.str (mk (a ++ [41])) t') { s with toks := k }) :
    wpAny (model PySem.Challenge.rw_rw0035_01.prog w) A (binaryOp .Add (.str (mk a) t) (.str (Str.ofString ")") u)) Q E s :=
  PyProof.Rows.add_str (fun t' k => by rw [par_mk, mk_app]; exact h t' k) (by rw [par_mk, mk_len, mk_len, PySem.sizeLine_eq]; simp only [List.length_cons, List.length_nil]; omega)
local macro_rules | `(tactic| walk_at "binaryOp Add str str") => `(tactic| ((with_reducible show wpAny _ _ (binaryOp Operator.Add (Value.str (mk _) _) (Value.str (Str.ofString ")") _)) _ _ _); (refine' add_par ?hs ?_; (case hs => omega)); intro t9 k9))
local macro_rules | `(tactic| walk_at "call ref") => `(tactic| ((with_reducible show wpAny _ _ (call (Value.ref 58) _ _) _ _ _); k_dflt (refine wpAny_call ?_; refine' code_def ?k1 ?k2 ?k3 ?k4 ?k5 ?kA ?kF ?kK ?k6 ?k7 ?k8 ?k9 ?kB ?_ ?c2 ?c3 ?c4 ?c5; (case kA | kF | kK => exact rfl); (case k1 | k2 | k3 | k4 | k5 => k_asm); (case k6 | k7 => k_is); (case k8 => walk_at "m_room"); (case k9 => exact BindsTo.of_eq rfl); (case c5 => decide); (case kB => exact locs rfl); (case c2 | c3 | c4 => exact rfl); k_whole; intro g' L' h' FG' F' N' B' X' T'; (try dsimp only); (try k_lift B'); try k_fold)))
theorem be_x {w : World} {dp un : Nat} {fr : Option (List Env)} {gd : Option (List Code)} {s : Shared} {mean : ExcName → Option Value} {mg mb : Str → Option Value} (b e : List Nat) (wd : Int) (t t2 t3 : Tok) {x : Str} (hx : Hid9 (x = mk (beF b wd e)))
    (X : (Kf w.params).In s.heap) (T : Top qv (looseW qv lo) mean mg mb s.heap) (hd : dp + 4 < recursionLimit) (hu : un + 80 < cLine) (hb : 1 ≤ b.length ∧ b.length ≤ 60) (hbc : ∀ c ∈ b, c < 256) (he : e.length ≤ 5) (hw : 4 ≤ wd ∧ wd ≤ 1000) :
    wpAny (model PySem.Challenge.rw_rw0035_01.prog w) (top9 dp un fr gd) (call (.ref 94) [.str (mk b) t, .int wd t2, .str (mk e) t3]) (Post9 s fun v _ => ∃ t', v = .str x t') No9 s := by
  rw [hx.out]
  exact be_c b e wd t t2 t3 X T hd hu hb hbc he hw
local macro_rules | `(tactic| walk_at "call ref") => `(tactic| ((with_reducible show wpAny _ _ (call (Value.ref 94) [Value.str (mk _) _, Value.int _ _, Value.str (mk _) _] []) _ _ _); (with_reducible rename Hid9 (_ = mk (beF _ _ _)) => hx9); k_dflt (refine' useS (be_x _ _ _ _ _ _ hx9 (Frag.In.keeps ?X (Fr.keep ?F)) (Top.keeps ?T (Fr.keep ?F)) ?d ?u ?k ?kb ?k2 ?k3) ?F2 ?N ?_; walk_at "m_use"; (case kb => assumption); (case k2 => simp only [List.length_append, List.length_cons, List.length_nil]; omega); case k3 => assumption); intro t' h' tk' F' N'))
theorem heard_c {w : World} {dp un : Nat} {gd : Option (List Code)} {s : Shared} {A₀ : Around} {base h₀ : Heap} {cn : Str} {cs : Scope} {L a : Addr} {ccd : Value} {m : Str → Option Value} {news : List (Addr × Obj)} {mean : ExcName → Option Value} {mg mb : Str → Option Value} {Q E : Value → Shared → Prop} (b e : List Nat) (wd : Int) (t t2 t3 : Tok) (x : Str) (hx : Hid9 (x = mk (beF b wd (e ++ [41]))))
    (B : Below A₀ base [] h₀) (F : Fr h₀ L s.heap m) (X : (Kf w.params).In h₀) (N : News h₀ L s.heap news) (T : Top qv (looseW qv lo) mean mg mb h₀) (XB : (Kf w.params).In base) (TB : Top qv (looseW qv lo) mean mg mb base) (hcs : cs.kind = .function) (hd : dp + 8 < recursionLimit) (hu : un + 200 < cLine) (hb : 1 ≤ b.length ∧ b.length ≤ 60) (hbc : ∀ c ∈ b, c < 256) (he : e.length ≤ 4) (hlen : x.length ≤ 50000) (h3 : Hid9 (¬ Txt.find x (Str.ofString "(") < 0 → ¬ Txt.find3 x (Str.ofString ")") (Txt.find x (Str.ofString "(") + 1) < 0 → (part3 x).length ≤ 640 ∧ (reprText (part3 x)).length ≤ sizeLine)) (hw : 4 ≤ wd ∧ wd ≤ 1000)
    (hret : ∀ v h' tk' news', Fr h₀ L h' m → News h₀ L h' news' → (∀ p ∈ news, p ∈ news') → HeardIs (parseS x) v news' → Q v { s with heap := h', toks := tk' }) :
    wpP (model PySem.Challenge.rw_rw0035_01.prog w) (top9 dp un (some [envOf cn cs L a ccd]) gd) (call (.ref 132) [.str (mk b) t, .int wd t2, .str (mk e) t3]) Q E s := by
  refine wpP_call ?_
  k_dflt (refine' inS0P B F X N T ?kA ?k6 ?k7 ?k8 ?k9 ?kB ?_ ?cK ?c2 ?c3 ?c4 ?c5; (case kA => exact rfl); (case k6 => k_is); (case k7 => k_is); (case k8 => walk_at "m_room"); (case k9 => exact BindsTo.of_eq rfl); (case kB => exact locs rfl); (case cK => exact hcs); (case c2 => exact rfl); (case c3 => exact rfl); (case c4 => exact rfl); (case c5 => decide); k_whole; intro g' L' h' FG' F' N' B' X' T' D'; (try dsimp only); (try k_lift B'); (try k_fold))
  refine wpP_execs_cons ?_
  refine wpP_Try ?_
  refine wpP_execs_cons ?_
  refine wpP_Return_some ?_
  refine wpP_Call_Name ?_
  k_steps
  refine callWithP_fn (argsP ?_ (by rfl))
  k_steps
  · with_reducible rename Fr _ _ _ _ => kF
    exact ⟨_, _, (X'.keeps kF.keep) _ _ (by k_is), rfl⟩
  refine wpP_call ?_
  k_dflt (refine' inP ?k1 ?k2 ?k3 ?k4 ?k5 ?kA ?kK ?k6 ?k7 ?k8 ?k9 ?kB ?_ ?c2 ?c3 ?c4 ?c5; (case kA => exact rfl); (case kK => exact rfl); (case k1 => k_asm); (case k2 => k_asm); (case k3 => k_asm); (case k4 => k_asm); (case k5 => k_asm); (case k6 => k_is); (case k7 => k_is); (case k8 => walk_at "m_room"); (case k9 => exact BindsTo.of_eq rfl); (case c5 => decide); (case kB => exact locs rfl); (case c2 => exact rfl); (case c3 => exact rfl); (case c4 => exact rfl); k_whole; intro g2 L2 h2 FG2 F2 N2 B2 X2 T2; (try dsimp only); (try k_lift B2); (try k_fold))
  iterate 9 ((with_reducible refine wpP_execs_cons (wpP_of ?_)); (try (have f9 := find_fact (x := x) (by with_reducible assumption))); (try (have f8 := find3_fact (x := x) (i := Txt.find x (Str.ofString "(") + 1) (by with_reducible assumption) (by omega) (by omega))); k_steps; (all_goals (try dsimp only)); (all_goals (first | ((with_reducible show wpP _ _ _ _ _ _); skip) | ((with_reducible show Q _ _); (with_reducible rename Fr h₀ L _ m => qF); (with_reducible rename News h₀ L _ _ => qN); refine hret _ _ _ _ qF qN (fun p hp => ?_) ?_; (· (repeat (first | exact hp | refine .tail _ ?_))); walk_at "m_res"; exact ⟨_, rfl⟩) | (fail "heard: a goal is left"))))
  refine wpP_execs_cons ?_
  refine wpP_Assign_Name ?_ (by rfl)
  refine wpP_Call_Name ?_
  k_steps
  refine callWithP_type rfl (argsP ?_ (by rfl))
  k_steps
  rename_i y9 t9 hy9
  with_reducible rename List.map _ _ = Txt.split _ _ => hlk
  have ey : Hid9 (_ = y9) := ⟨part3_of hlk hy9⟩
  have hl9 : Hid9 (y9.length ≤ 640) := ⟨by rw [← ey.out]; exact (h3.out (by with_reducible assumption) (by with_reducible assumption)).1⟩
  have hr9 : Hid9 ((reprText y9).length ≤ sizeLine) := ⟨by rw [← ey.out]; exact (h3.out (by with_reducible assumption) (by with_reducible assumption)).2⟩
  cases hi : PySem.intText? y9 with
  | none =>
    refine int_raises rfl (Nat.le_trans (PySem.seen_length y9) hl9.out) hi hr9.out ?_
    intro h5 e5 args5 tk5 H5
    dsimp only
    k_steps
    with_reducible rename Fr h₀ L _ m => qF
    with_reducible rename News h₀ L _ _ => qN
    refine hret _ _ _ _ qF qN (fun p hp => ?_) ?_
    · repeat (first | exact hp | refine .tail _ ?_)
    walk_at "m_res"
    rw [ey.out, hi]
    exact ⟨_, rfl⟩
  | some n9 =>
    refine wpP_of (KIN.call_text hi hl9.out ?_)
    k_steps
    refine wpP_execs_cons (wpP_of ?_)
    k_steps
    with_reducible rename Fr h₀ L _ m => qF
    with_reducible rename News h₀ L _ _ => qN
    refine hret _ _ _ _ qF qN (fun p hp => ?_) ?_
    · repeat (first | exact hp | refine .tail _ ?_)
    walk_at "m_res"
    rw [ey.out, hi]
    exact ⟨_, _, _, rfl, by repeat (first | exact .head _ | refine .tail _ ?_)⟩
local macro_rules | `(tactic| walk_at "call ref") => `(tactic| ((with_reducible show wpAny _ _ (call (Value.ref 94) _ _) _ _ _); (with_reducible rename Fr _ _ _ _ => bF9); (with_reducible rename Frag.In _ _ => bX9); k_dflt (refine wpAny_call ?_; refine' code_def ?k1 ?k2 ?k3 ?k4 ?k5 ?kA ?kF ?kK ?k6 ?k7 ?k8 ?k9 ?kB ?_ ?c2 ?c3 ?c4 ?c5; (case kA | kF | kK => exact rfl); (case k1 | k2 | k3 | k4 | k5 => k_asm); (case k6 | k7 => k_is); (case k8 => walk_at "m_room"); (case k9 => exact binds_K (bX9.keeps bF9.keep) rfl (by k_is) rfl rfl rfl); (case c5 => decide); (case kB => exact locs rfl); (case c2 | c3 | c4 => exact rfl); k_whole; intro g' L' h' FG' F' N' B' X' T'; (try dsimp only); (try k_lift B'); try k_fold)))
theorem heard3_c {w : World} {dp un : Nat} {gd : Option (List Code)} {s : Shared} {A₀ : Around} {base h₀ : Heap} {cn : Str} {cs : Scope} {L a : Addr} {ccd : Value} {m : Str → Option Value} {news : List (Addr × Obj)} {mean : ExcName → Option Value} {mg mb : Str → Option Value} {Q E : Value → Shared → Prop} (b e : List Nat) (t t2 t3 : Tok)
    (B : Below A₀ base [] h₀) (F : Fr h₀ L s.heap m) (X : (Kf w.params).In h₀) (N : News h₀ L s.heap news) (T : Top qv (looseW qv lo) mean mg mb h₀) (XB : (Kf w.params).In base) (TB : Top qv (looseW qv lo) mean mg mb base) (hcs : cs.kind = .function) (hd : dp + 8 < recursionLimit) (hu : un + 200 < cLine) (he : e.length ≤ 4)
    (hret : ∀ v h' tk' news', Fr h₀ L h' m → News h₀ L h' news' → (∀ p ∈ news, p ∈ news') → (∃ t, v = .str (Str.ofString "value") t) → Q v { s with heap := h', toks := tk' }) :
    wpP (model PySem.Challenge.rw_rw0035_01.prog w) (top9 dp un (some [envOf cn cs L a ccd]) gd) (call (.ref 132) [.str (mk b) t, .int 3 t2, .str (mk e) t3]) Q E s := by
  refine wpP_call ?_
  k_dflt (refine' inS0P B F X N T ?kA ?k6 ?k7 ?k8 ?k9 ?kB ?_ ?cK ?c2 ?c3 ?c4 ?c5; (case kA => exact rfl); (case k6 => k_is); (case k7 => k_is); (case k8 => walk_at "m_room"); (case k9 => exact BindsTo.of_eq rfl); (case kB => exact locs rfl); (case cK => exact hcs); (case c2 => exact rfl); (case c3 => exact rfl); (case c4 => exact rfl); (case c5 => decide); k_whole; intro g' L' h' FG' F' N' B' X' T' D'; (try dsimp only); (try k_lift B'); (try k_fold))
  k_with_none
  refine wpP_execs_cons (wpP_of ?_)
  k_steps
  with_reducible rename Fr h₀ L _ m => qF
  with_reducible rename News h₀ L _ _ => qN
  refine hret _ _ _ _ qF qN (fun p hp => ?_) ⟨_, rfl⟩
  repeat (first | exact hp | refine .tail _ ?_)
end
section
noncomputable def HeardPart : Heard → Value → Heap → Prop
  | .reply, v, _ => ∃ t, v = .str (Str.ofString "reply") t
  | .proto, v, _ => ∃ t, v = .str (Str.ofString "proto") t
  | .value, v, _ => ∃ t, v = .str (Str.ofString "value") t
  | .peer n, v, h => ∃ D t u, v = .ref D ∧ h.get? D = some { cls := .type "tuple", data := .seq #[.str (Str.ofString "peer") t, .int n u] }
theorem HeardPart.keeps {r : Heard} {v : Value} {h h' : Heap} (p : HeardPart r v h) (hk : ∀ b o, h.get? b = some o → h'.get? b = some o) : HeardPart r v h' := by
  cases r with
  | peer n => obtain ⟨D, t, u, e, g⟩ := p; exact ⟨D, t, u, e, hk _ _ g⟩
  | reply => exact p
  | proto => exact p
  | value => exact p
theorem HeardPart.of {r : Heard} {v : Value} {h₀ h : Heap} {L : Addr} {news : List (Addr × Obj)} (p : HeardIs r v news) (N : News h₀ L h news) : HeardPart r v h := by
  cases r with
  | peer n => obtain ⟨D, t, u, e, g⟩ := p; exact ⟨D, t, u, e, (N _ g).1⟩
  | reply => exact p
  | proto => exact p
  | value => exact p
theorem HeardPart.due {r : Heard} {v : Value} {s : Shared} {h : Heap} (p : DueIs s r v h) : HeardPart r v h := by
  cases r with
  | peer n => obtain ⟨D, t, u, e, _, g⟩ := p; exact ⟨D, t, u, e, g⟩
  | reply => exact p
  | proto => exact p
  | value => exact p
theorem peer_shaped (n : Int) : SeqAt.shaped (.tuple [.str (Str.ofString "peer"), .int n]) = true := by
  have h1 : PyData.strOk (Str.ofString "peer") = true := by decide +kernel
  simp [SeqAt.shaped, PyData.canLay0, PyData.canLayAll0, PyData.depth, PyData.depthAll, h1]
theorem ne_heard {prog : Program} {w : World} {A : Around} {E Q : Value → Shared → Prop} {s : Shared} {r : Heard} {a b : Value} (ha : HeardPart r a s.heap) (hb : HeardPart r b s.heap) (hu : A.units + 64 < cLine) (h : Q (.bool false) s) :
    wpAny (model prog w) A (compareOp .NotEq a b) Q E s := by
  have str : ∀ {x : Str}, (∃ t, a = .str x t) → (∃ t, b = .str x t) → wpAny (model prog w) A (compareOp .NotEq a b) Q E s := by
    rintro x ⟨t, rfl⟩ ⟨u, rfl⟩
    refine PySem.P.ne_str ?_
    rw [bne_self_eq_false]
    exact h
  cases r with
  | reply => exact str ha hb
  | proto => exact str ha hb
  | value => exact str ha hb
  | peer n =>
    obtain ⟨D, t, u, rfl, g⟩ := ha
    obtain ⟨D', t', u', rfl, g'⟩ := hb
    have c : ∀ t u, CarriedAll [Value.str (Str.ofString "peer") t, Value.int n u] [PyData.str (Str.ofString "peer"), PyData.int n] := fun t u => .cons (.str _ _) (.cons (.int _ _) .nil)
    refine ne_dataH_same (reads_newDataT (ys := [Value.str (Str.ofString "peer") t, Value.int n u]) ⟨_, g, rfl, _, rfl⟩ (c t u)) (reads_newDataT (ys := [Value.str (Str.ofString "peer") t', Value.int n u']) ⟨_, g', rfl, _, rfl⟩ (c t' u')) (peer_shaped n) (peer_shaped n) hu ?_ ?_
    · simp [SeqAt.noMix, SeqAt.noMixAll]
    · have e : PySem.Spec.same (.tuple [.str (Str.ofString "peer"), .int n]) (.tuple [.str (Str.ofString "peer"), .int n]) = true := by simp [PySem.Spec.same, PySem.Spec.sameAll]
      rw [e]
      exact h
end
section
structure PlainOK (sg : List Int) (b e : List Nat) : Prop where
  fact : ∀ wd : Int, 4 ≤ wd → wd ≤ 1000 → ∃ x, Hid9 (x = mk (beF b wd (e ++ [41]))) ∧ Hid9 (parseS x = dueS wd sg e) ∧ x.length ≤ 50000 ∧ Hid9 (¬ Txt.find x (Str.ofString "(") < 0 → ¬ Txt.find3 x (Str.ofString ")") (Txt.find x (Str.ofString "(") + 1) < 0 → (part3 x).length ≤ 640 ∧ (reprText (part3 x)).length ≤ sizeLine)
theorem heard_all {w : World} {dp un : Nat} {gd : Option (List Code)} {s : Shared} {A₀ : Around} {base h₀ : Heap} {cn : Str} {cs : Scope} {L a : Addr} {ccd : Value} {m : Str → Option Value} {news : List (Addr × Obj)} {mean : ExcName → Option Value} {mg mb : Str → Option Value} {Q E : Value → Shared → Prop} (sg : List Int) (b e : List Nat) (wd : Int) (t t2 t3 : Tok) (P : PlainOK sg b e)
    (B : Below A₀ base [] h₀) (F : Fr h₀ L s.heap m) (X : (Kf w.params).In h₀) (N : News h₀ L s.heap news) (T : Top qv (looseW qv lo) mean mg mb h₀) (XB : (Kf w.params).In base) (TB : Top qv (looseW qv lo) mean mg mb base) (hcs : cs.kind = .function) (hd : dp + 8 < recursionLimit) (hu : un + 200 < cLine) (hb : 1 ≤ b.length ∧ b.length ≤ 60) (hbc : ∀ c ∈ b, c < 256) (he : e.length ≤ 4) (hw : 3 ≤ wd ∧ wd ≤ 1000)
    (hret : ∀ v h' tk' news', Fr h₀ L h' m → News h₀ L h' news' → (∀ p ∈ news, p ∈ news') → HeardIs (dueS wd sg e) v news' → Q v { s with heap := h', toks := tk' }) :
    wpP (model PySem.Challenge.rw_rw0035_01.prog w) (top9 dp un (some [envOf cn cs L a ccd]) gd) (call (.ref 132) [.str (mk b) t, .int wd t2, .str (mk e) t3]) Q E s := by
  by_cases h : wd = 3
  · subst h
    exact heard3_c b e t t2 t3 B F X N T XB TB hcs hd hu he fun v h' tk' n' F' N' hs hv => hret v h' tk' n' F' N' hs (by rw [dueS_v (by decide)]; exact hv)
  · obtain ⟨x, h1, h2, h3, h4⟩ := P.fact wd (by omega) hw.2
    exact heard_c b e wd t t2 t3 x h1 B F X N T XB TB hcs hd hu hb hbc he h3 h4 ⟨by omega, hw.2⟩ fun v h' tk' n' F' N' hs hv => hret v h' tk' n' F' N' hs (by rw [← h2.out]; exact hv)
end
section
local macro_rules | `(tactic| walk_at "CompSrc") => `(tactic| (k_here; kct_src; k_dflt (refine LCg.CompSrc.ledger (by rfl) (by k_asm) (by k_asm) (by k_mem) (by ((rw [List.size_toArray, PySem.sizeLine_eq]); omega)) ?_; intro g'; refine' kct_list _ (by with_reducible assumption) (fun k' t' I' oI' C' oC' D' m' ys' h' tk' E' hk' hC' hx' F' N' off' ne' => ?_) ?_; (all_goals try simp only [LCg.Off3, and_true] at off'); (all_goals try show KPfMark → _; intro hMark'); kcf_last)))
section
noncomputable def lawFd : FuncData := fnD 30 3 0 .none .none .none .none none .none .none
noncomputable def lawSt : List Stmt := match lawFd.body with
  | .stmts st => st
  | _ => []
noncomputable abbrev lawEnv (L : Addr) : Env := envOf (Str.ofString "law") lawFd.scope L 137 (.ref 136)
theorem sgS_len (k : Int) : (mk (sgn k.toNat)).length ≤ 3 := by rw [mk_len]; exact sgn_len _
theorem len_car {w : World} {A : Around} {s : Shared} {E Q : Value → Shared → Prop} {D : Addr} {ys : List Value} {ds : List Int} (hl : s.heap.IsList D ys.toArray) (hc : CarriedAll ys (ds.map PyData.int)) (hn : ds.length ≤ 1000)
    (h : Q (.int (ds.length : Int) (s.toks + 1)) { s with toks := s.toks + 1 + 1 }) : wpAny (model PySem.Challenge.rw_rw0035_01.prog w) A (call (.builtin "len") [.ref D]) Q E s := by
  have e : ys.toArray.size = ds.length := by rw [List.size_toArray, hc.length_eq, List.length_map]
  exact len_list hl (by rw [e]; omega) (by rw [e]; exact h)
local macro_rules | `(tactic| walk_at "call builtin:len") => `(tactic| ((with_reducible show wpAny _ _ (call (Value.builtin "len") [Value.ref _]) _ _ _); (with_reducible rename CarriedAll _ _ => hC9); k_dflt (refine' len_car ?hl hC9 ?hn ?_; (case hl => with_reducible assumption); case hn => exact Nat.le_trans (List.length_filter_le _ _) (by omega))))
structure Law9 (ws : List Value) (sg : List Int) (b e : List Nat) : Prop where
  isP : PlainOK sg b e
  isI : IntsAre ws sg
  isK : ∀ k ∈ sg, 0 ≤ k ∧ k < 25
  isL : 3 ≤ sg.length ∧ sg.length ≤ 13
  bl : e.length ≤ 1
  bc : LowC (mk e)
  bb : 3 ≤ b.length ∧ b.length ≤ 39
  bbc : ∀ c ∈ b, c < 256
noncomputable def turnSt : List Stmt := match lawSt.drop 7 with
  | .For _ _ body _ _ :: _ => body
  | _ => []
local macro_rules | `(tactic| walk_at "call ref") => `(tactic| ((with_reducible show wpAny _ _ (call (Value.ref 125) [Value.ref _, Value.int _ _, Value.str (mk _) _] []) _ _ _); (with_reducible rename News _ _ _ _ => dN9); (with_reducible rename Law9 _ _ _ _ => dU9); (with_reducible rename (∀ p ∈ _, p ∈ _) => dS9); (with_reducible rename ((_, W.listOf _ _) ∈ _) => dM9); k_dflt (refine' useR (due_c _ _ _ _ _ _ _ (Frag.In.keeps ?X (Fr.keep ?F)) (Top.keeps ?T (Fr.keep ?F)) ?d ?u (dN9.isList (dS9 _ dM9)) dU9.isI dU9.isK ⟨dU9.isL.1, Nat.le_trans dU9.isL.2 (by decide)⟩ ?hw dU9.bl dU9.bc) ?_; (case F => k_asm); (case X | T => assumption); (case d | u => walk_at "m_room"); case hw => with_reducible assumption); intro v9 h9 tk9 K9 D9))
theorem law_turn {w : World} {s : Shared} {mean : ExcName → Option Value} {mg mb : Str → Option Value} {Q : Flow → Shared → Prop} {E : Value → Shared → Prop} {L D : Addr} {ws : List Value} {sg : List Int} {b e : List Nat} {n tk : Nat} {t t1 t2 : Tok} {wd : Int} {h : Heap} {m : Str → Option Value} {news : List (Addr × Obj)}
    (H : Law9 ws sg b e) (X : (Kf w.params).In s.heap) (T : Top qv (looseW qv lo) mean mg mb s.heap) (hw : 3 ≤ wd ∧ wd ≤ 1000)
    (F : Fr s.heap L h m) (N : News s.heap L h news) (hD : (D, W.listOf ws.toArray n) ∈ news)
    (m1 : m (Str.ofString "wide") = some (.int wd t)) (m2 : m (Str.ofString "front") = some (.str (mk e) t1)) (m3 : m (Str.ofString "text") = some (.str (mk b) t2)) (m4 : m (Str.ofString "signs") = some (.ref D))
    (hret : ∀ h' tk', Fr s.heap L h' m → News s.heap L h' news → Q .next { s with heap := h', toks := tk' }) :
    wpP (model PySem.Challenge.rw_rw0035_01.prog w) (callerA.deeper (lawEnv L)) (execs turnSt (lawEnv L)) Q E { s with heap := h, toks := tk } := by
  have hd : callerA.depth + 20 < recursionLimit := by decide +kernel
  have hu : callerA.units + 400 < cLine := by decide +kernel
  have em : m = fun y => if y = Str.ofString "wide" then some (.int wd t) else if y = Str.ofString "front" then some (.str (mk e) t1) else if y = Str.ofString "text" then some (.str (mk b) t2) else if y = Str.ofString "signs" then some (.ref D) else m y := by
    funext y
    by_cases h1 : y = Str.ofString "wide"
    · rw [if_pos h1, h1, m1]
    · rw [if_neg h1]
      by_cases h2 : y = Str.ofString "front"
      · rw [if_pos h2, h2, m2]
      · rw [if_neg h2]
        by_cases h3 : y = Str.ofString "text"
        · rw [if_pos h3, h3, m3]
        · rw [if_neg h3]
          by_cases h4 : y = Str.ofString "signs"
          · rw [if_pos h4, h4, m4]
          · rw [if_neg h4]
  clear m1 m2 m3 m4
  have hbl : e.length ≤ 4 := by have := H.bl; omega
  have hbb : 1 ≤ b.length ∧ b.length ≤ 60 := by have := H.bb; omega
  generalize m = u at em F hret
  rw [em] at F hret
  clear em
  k_with_none
  with_unfolding_all refine wpP_execs_cons ?_
  refine wpP_If ?_
  refine wpP_isTrue_Compare1 ?_ (by with_unfolding_all rfl)
  refine wpP_Call_Name ?_
  k_steps
  refine callWithP_fn (argsP ?_ (by rfl))
  k_steps
  · exact ⟨_, _, (X.keeps F.keep) _ _ (by k_is), rfl⟩
  k_dflt (refine heard_all sg b e wd _ _ _ H.isP (below_caller s.heap) F X N T X T rfl (by walk_at "m_room") (by walk_at "m_room") hbb H.bbc hbl hw ?_)
  intro v h' tk' news' F' N' hs hv
  k_steps
  with_reducible rename News _ _ _ _ => N'
  with_reducible rename Fr _ _ _ _ => F'
  with_reducible rename (∀ p ∈ _, p ∈ _) => hs
  with_reducible rename Kp _ _ => K9
  with_reducible rename DueIs _ _ _ _ => D9
  refine ne_heard ((HeardPart.of hv N').keeps K9.keep) (HeardPart.due D9) (by walk_at "m_room") ?_
  k_steps
  refine wpP_execs_nil ?_
  dsimp only
  refine wpP_execs_nil ?_
  refine hret _ _ ?_ ?_
  · exact K9.fr F'
  · exact fun p hp => K9.newsK N' p (hs p hp)
theorem law_end {w : World} {s : Shared} {mean : ExcName → Option Value} {mg mb : Str → Option Value} {Q : Flow → Shared → Prop} {E : Value → Shared → Prop} {L D : Addr} {ws : List Value} {sg : List Int} {b e : List Nat} {n tk : Nat} {t1 t2 : Tok} {h₁ : Heap} {u : Str → Option Value}
    (H : Law9 ws sg b e)
    (X : (Kf w.params).In s.heap) (T : Top qv (looseW qv lo) mean mg mb s.heap)
    (F : Fr s.heap L h₁ (fun y => if y = Str.ofString "front" then some (.str (mk e) t1) else if y = Str.ofString "text" then some (.str (mk b) t2) else if y = Str.ofString "signs" then some (.ref D) else u y)) (N : News s.heap L h₁ [(D, W.listOf ws.toArray n)])
    (hret : ∀ h' tk', (∀ b o, s.heap.get? b = some o → h'.get? b = some o) → Q (.ret (.bool true)) { s with heap := h', toks := tk' }) :
    wpP (model PySem.Challenge.rw_rw0035_01.prog w) (callerA.deeper (lawEnv L)) (execs (lawSt.drop 7) (lawEnv L)) Q E { s with heap := h₁, toks := tk } := by
  have hd : callerA.depth + 20 < recursionLimit := by decide +kernel
  have hu : callerA.units + 400 < cLine := by decide +kernel
  have hI := H.isI
  have hR9 := H.isK
  have hR8 := H.isL
  have hwl := hI.length
  have hbb := H.bb
  k_with_none
  with_unfolding_all refine wpP_execs_cons ?_
  refine wpP_For ?_ (by intro _; rfl)
  k_steps
  with_reducible rename IsRange _ _ _ _ _ _ _ _ => hr
  with_reducible rename Fr _ _ _ _ => F9
  with_reducible rename News _ _ _ _ => N9
  have hfl : (List.filter (fun a => if 9 < a then decide (a < 21) else false) sg).length ≤ 13 := Nat.le_trans (List.length_filter_le _ _) H.isL.2
  have hfl2 : (mk b).length = b.length := mk_len b
  refine rangeP (by rfl) hr (small_one (by omega) (by omega) (by omega) (by omega)) (rangeSize_nat _ _) (by rfl) (by rfl) F9 N9 ?_ ?_
  · intro i t h tk I io hi hoff F' N'
    refine law_turn (s := s) H X T ?_ F' N' (by first | exact .head _ | exact .tail _ (.head _) | exact .tail _ (.tail _ (.head _)) | exact .tail _ (.tail _ (.tail _ (.head _)))) (by rfl) (by rfl) (by rfl) (by rfl) ?_
    · omega
    intro h' tk' F'' N''
    exact ⟨rfl, _, _, _, rfl, F'', N'', fun z hz => if_neg hz⟩
  · intro h tk ⟨u9, F'⟩ N'
    dsimp only
    with_reducible refine wpP_execs_cons (wpP_of ?_)
    k_steps
    with_reducible rename Fr _ _ _ _ => F8
    exact hret _ _ F8.keep
end
section
theorem space_mk : Str.ofString " " = mk [32] := by decide +kernel
theorem law_mid {w : World} {s : Shared} {mean : ExcName → Option Value} {mg mb : Str → Option Value} {Q : Flow → Shared → Prop} {E : Value → Shared → Prop} {L l D : Addr} {vs ws : List Value} {ns sg : List Int} {n tk : Nat} {h₁ : Heap} {u : Str → Option Value}
    (X : (Kf w.params).In s.heap) (T : Top qv (looseW qv lo) mean mg mb s.heap)
    (hl : s.heap.IsList l vs.toArray) (hi : IntsAre vs ns) (hn : ns.length ≤ 63)
    (hI : IntsAre ws sg) (hR9 : ∀ k ∈ sg, 0 ≤ k ∧ k < 25) (hR8 : 3 ≤ sg.length ∧ sg.length ≤ 13)
    (P1 : Hid9 (Law9 ws sg (sg.flatMap fun k => sgn k.toNat) [32])) (P2 : Hid9 (Law9 ws sg (sg.flatMap fun k => sgn k.toNat) []))
    (hret : ∀ h' tk', (∀ b o, s.heap.get? b = some o → h'.get? b = some o) → Q (.ret (.bool true)) { s with heap := h', toks := tk' })
    (F : Fr s.heap L h₁ (fun y => if y = Str.ofString "signs" then some (.ref D) else if y = Str.ofString "script" then some (.ref l) else u y)) (N : News s.heap L h₁ [(D, W.listOf ws.toArray n)]) :
    wpP (model PySem.Challenge.rw_rw0035_01.prog w) (callerA.deeper (lawEnv L)) (execs (lawSt.drop 5) (lawEnv L)) Q E { s with heap := h₁, toks := tk } := by
  have hd : callerA.depth + 20 < recursionLimit := by decide +kernel
  have hu : callerA.units + 400 < cLine := by decide +kernel
  have hsc := sgS_len
  have hwl := hI.length
  have hTl : (sg.flatMap fun k => sgn k.toNat).length ≤ 39 := by have := flat_len (fun k => sgn k.toNat) (fun k => sgn_len _) sg; omega
  k_with_none
  with_unfolding_all refine wpP_execs_cons (wpP_of ?_)
  k_steps
  (with_reducible refine wpP_execs_cons (wpP_of ?_)); k_steps
  all_goals (try dsimp only)
  · with_reducible rename Fr _ _ _ _ => F9
    with_reducible rename News _ _ _ _ => N9
    rw [space_mk] at F9
    exact law_end (s := s) P1.out X T F9 (fun p hp => N9 p (.tail _ hp)) hret
  · with_reducible rename Fr _ _ _ _ => F9
    with_reducible rename News _ _ _ _ => N9
    rw [empty_mk] at F9
    exact law_end (s := s) P2.out X T F9 (fun p hp => N9 p (.tail _ hp)) hret
end
section
noncomputable def sg0 (ns : List Int) : List Int := (ns.take 8).map fun k => k.fmod 25
noncomputable def sg1 (ns : List Int) : List Int := if ns.sum.fmod 8 < 7 then (sg0 ns).take (ns.sum.fmod 8).toNat ++ [21] ++ (sg0 ns).drop (ns.sum.fmod 8).toNat else sg0 ns
noncomputable def codeS (n : Int) : List Int := if n.fmod 16 < 13 then [2, 2, 9] else if n.fmod 16 = 13 then [3, 2, 9] else if n.fmod 16 = 14 then [2, 3, 9] else [2, 2, 8]
noncomputable def tailS (n : Int) : List Int := if n.fmod 3 = 0 then [] else if n.fmod 3 = 1 then [22] else [23]
noncomputable def kindsS (ns : List Int) : List Int := codeS ns.length ++ sg1 ns ++ tailS ns.length
theorem sg0_ok (ns : List Int) : (sg0 ns).length ≤ 8 ∧ ∀ k ∈ sg0 ns, 0 ≤ k ∧ k < 25 := by
  refine ⟨by unfold sg0; rw [List.length_map, List.length_take]; omega, fun k hk => ?_⟩
  obtain ⟨z, _, rfl⟩ := List.mem_map.mp hk
  exact ⟨fmod_lo _ (by decide), fmod_hi _ (by decide)⟩
theorem sg1_ok (ns : List Int) : (sg1 ns).length ≤ 9 ∧ ∀ k ∈ sg1 ns, 0 ≤ k ∧ k < 25 := by
  have h := sg0_ok ns
  unfold sg1
  split
  · refine ⟨by simp only [List.length_append, List.length_take, List.length_drop, List.length_cons, List.length_nil]; omega, fun k hk => ?_⟩
    rcases List.mem_append.mp hk with q | q
    · rcases List.mem_append.mp q with q | q
      · exact h.2 k (List.mem_of_mem_take q)
      · rw [List.mem_singleton.mp q]; omega
    · exact h.2 k (List.mem_of_mem_drop q)
  · exact ⟨by omega, h.2⟩
theorem codeS_ok (n : Int) : (codeS n).length = 3 ∧ ∀ k ∈ codeS n, 0 ≤ k ∧ k < 25 := by
  unfold codeS
  (repeat' split) <;> exact ⟨rfl, by intro k hk; simp at hk; omega⟩
theorem tailS_ok (n : Int) : (tailS n).length ≤ 1 ∧ ∀ k ∈ tailS n, 0 ≤ k ∧ k < 25 := by
  unfold tailS
  (repeat' split) <;> exact ⟨by decide, by intro k hk; simp at hk; try omega⟩
theorem kindsS_ok (ns : List Int) : (3 ≤ (kindsS ns).length ∧ (kindsS ns).length ≤ 13) ∧ ∀ k ∈ kindsS ns, 0 ≤ k ∧ k < 25 := by
  have h1 := codeS_ok ns.length
  have h2 := sg1_ok ns
  have h3 := tailS_ok ns.length
  unfold kindsS
  refine ⟨by simp only [List.length_append]; omega, fun k hk => ?_⟩
  rcases List.mem_append.mp hk with q | q
  · rcases List.mem_append.mp q with q | q
    · exact h1.2 k q
    · exact h2.2 k q
  · exact h3.2 k q
theorem kinds_a {ns c t : List Int} (hc : c = codeS ns.length) (ht : t = tailS ns.length) (h : ns.sum.fmod 8 < 7) : c ++ (List.take (ns.sum.fmod 8).toNat (List.map (fun k' => k'.fmod 25) (List.take 8 ns)) ++ [21] ++ List.drop (ns.sum.fmod 8).toNat (List.map (fun k' => k'.fmod 25) (List.take 8 ns))) ++ t = kindsS ns := by
  unfold kindsS sg1
  rw [hc, ht, if_pos h]
  rfl
theorem kinds_b {ns c t : List Int} (hc : c = codeS ns.length) (ht : t = tailS ns.length) (h : ¬ ns.sum.fmod 8 < 7) : c ++ (List.map (fun k' => k'.fmod 25) (List.take 8 ns)) ++ t = kindsS ns := by
  unfold kindsS sg1
  rw [hc, ht, if_neg h]
  rfl
end
section
theorem sgn_pos (k : Nat) : 1 ≤ (sgn k).length := by unfold sgn; (repeat' split) <;> simp
theorem flat_lo (sg : List Int) : sg.length ≤ (sg.flatMap fun k => sgn k.toNat).length := by
  induction sg with
  | nil => simp
  | cons k r ih =>
    have := sgn_pos k.toNat
    simp only [List.flatMap_cons, List.length_append, List.length_cons]
    omega
theorem sgn_low : ∀ k : Nat, k < 25 → ∀ c ∈ sgn k, c < 256 := by
  intro k hk c hc
  unfold sgn at hc
  (repeat' split at hc) <;> (have := List.mem_singleton.mp hc; omega)
theorem fr_cut {h₀ h : Heap} {L D l : Addr} {m : Str → Option Value} (F : Fr h₀ L h m) (h1 : m (Str.ofString "signs") = some (.ref D)) (h2 : m (Str.ofString "script") = some (.ref l)) :
    Fr h₀ L h (fun y => if y = Str.ofString "signs" then some (.ref D) else if y = Str.ofString "script" then some (.ref l) else m y) := by
  have e : m = fun y => if y = Str.ofString "signs" then some (.ref D) else if y = Str.ofString "script" then some (.ref l) else m y := by
    funext y
    by_cases a : y = Str.ofString "signs"
    · rw [if_pos a, a, h1]
    · rw [if_neg a]
      by_cases b : y = Str.ofString "script"
      · rw [if_pos b, b, h2]
      · rw [if_neg b]
  rw [e] at F
  exact F
theorem law9_of {ws : List Value} {ns : List Int} {e : List Nat} (hI : IntsAre ws (kindsS ns)) (he : e = [32] ∨ e = []) (P : PlainOK (kindsS ns) ((kindsS ns).flatMap fun k => sgn k.toNat) e) : Law9 ws (kindsS ns) ((kindsS ns).flatMap fun k => sgn k.toNat) e := by
  have hok := kindsS_ok ns
  have h1 := flat_lo (kindsS ns)
  have h2 := flat_len (fun k => sgn k.toNat) (fun k => sgn_len _) (kindsS ns)
  refine ⟨P, hI, hok.2, hok.1, ?_, ?_, ⟨by omega, by omega⟩, ?_⟩
  · rcases he with rfl | rfl <;> decide
  · rcases he with rfl | rfl
    · intro c hc
      have : c = 32 := by simpa [mk] using hc
      omega
    · intro c hc
      simp [mk] at hc
  · intro c hc
    obtain ⟨k, hk, hc⟩ := List.mem_flatMap.mp hc
    have := hok.2 k hk
    exact sgn_low k.toNat (by omega) c hc
theorem enterP {w : World} {A : Around} {s : Shared} {mean : ExcName → Option Value} {mg mb : Str → Option Value} {R : Result → Shared → Prop} {name qual : Str} {params : Arguments} {body : List Stmt} {scope : Scope} {dV kV doc pm cdv ct oc : Value} {an od : Option Addr} {osl : Array (Option Value)} {f : Addr} {vs : List Value}
    (X : (Kf w.params).In s.heap) (T : Top qv (looseW qv lo) mean mg mb s.heap)
    (ho : (Kf w.params).lookup f = some ⟨oc, od, .func (fnOf name qual params body scope dV kV doc pm an cdv ct), osl⟩) (hcd : codeIn (Kf w.params) cdv qual = true) (hroom : A.depth < recursionLimit)
    (hbind : BindsTo s (fnOf name qual params body scope dV kV doc pm an cdv ct) ⟨vs, []⟩ ((params.args.map (·.arg)).zip vs)) (hloc : (((params.args.map (·.arg)).zip vs).all fun x => decide (scope.names.lookup x.1 = some .local)) = true)
    (hcell : ∀ x ∈ scope.names, x.2 ≠ .cell) (hco : scope.isCoroutine = false) (hgen : scope.isGenerator = false) (hk : scope.kind = .function)
    (h : ∀ L h₁ tk, Fr s.heap L h₁ (argM params vs) → News s.heap L h₁ [] →
      wpP (model PySem.Challenge.rw_rw0035_01.prog w) (A.deeper (envOf qual scope L f cdv)) (execs body (envOf qual scope L f cdv))
        (fun fl s' => R (.ok (.ret (match fl with | .ret v => v | _ => .none))) s')
        (fun e s' => wpAny (model PySem.Challenge.rw_rw0035_01.prog w) (A.deeper (envOf qual scope L f cdv)) (leaving (envOf qual scope L f cdv) e) (fun _ s'' => R (.error e) s'') (fun e' s'' => R (.error e') s'') s')
        { s with heap := h₁, toks := tk }) :
    codeP (model PySem.Challenge.rw_rw0035_01.prog w) A (.call (.ref f) ⟨vs, []⟩) R s :=
  codeP_call_def (fd := fnOf name qual params body scope dV kV doc pm an cdv ct) (body := body) (binds := (params.args.map (·.arg)).zip vs) hroom (X _ _ ho) rfl T.nolimit (codeRec_of X hcd) rfl hbind hcell (locs hloc)
    (fun h₁ hns hk₁ => h _ h₁ _ ⟨(hns : h₁.Ns _ (argM params vs)), hk₁, Nat.le_refl _⟩ News.nil) hco hgen hk
local macro_rules | `(tactic| walk_at "subscriptTail") => `(tactic| ((with_reducible show wpAny _ _ (subscriptTail _ _ (Value.ref _) (Value.int _ _)) _ _ _); (with_reducible rename News _ _ _ _ => tN9); k_dflt (refine item16 tN9 (by k_mem) ⟨fmod_lo _ (by decide), fmod_hi _ (by decide)⟩ (by k_mem) (by k_mem) (by k_mem) (by k_mem) (.cons _ _ (.cons _ _ (.cons _ _ .nil))) (.cons _ _ (.cons _ _ (.cons _ _ .nil))) (.cons _ _ (.cons _ _ (.cons _ _ .nil))) (.cons _ _ (.cons _ _ (.cons _ _ .nil))) ?_); intro C9 v9 m9 cs9 tN8 tI9 tE9; k_dflt (have tE8 : cs9 = codeS _ := tE9); have tL9 : cs9.length = 3 := by ((rw [tE9]); (repeat' split) <;> rfl)))
local macro_rules | `(tactic| walk_at "subscriptTail") => `(tactic| ((with_reducible show wpAny _ _ (subscriptTail _ _ (Value.ref _) (Value.int _ _)) _ _ _); (with_reducible rename News _ _ _ _ => tN9); k_dflt (refine item3 tN9 (by exact List.Mem.head _) ⟨fmod_lo _ (by decide), fmod_hi _ (by decide)⟩ (by exact .tail _ (.tail _ (.tail _ (.head _)))) (by exact .tail _ (.tail _ (.head _))) (by exact .tail _ (.head _)) .nil (.cons _ _ .nil) (.cons _ _ .nil) ?_); intro C9 v9 m9 cs9 tN8 tI9 tE9; k_dflt (have tE8 : cs9 = tailS _ := tE9); have tL9 : cs9.length ≤ 1 := by ((rw [tE9]); (repeat' split) <;> decide)))
local macro_rules | `(tactic| walk_at "subscriptTail Name Slice ref ref") => `(tactic| ((with_reducible show wpAny _ _ (subscriptTail _ (Expr.Slice (some _) none none _) (Value.ref _) (Value.ref _)) _ _ _); (with_reducible rename News _ _ _ _ => sN9); (with_reducible rename Fr _ _ _ _ => sF9); (with_reducible rename IntsAre _ (List.map _ _) => sI9); k_dflt (refine kmk_slice_ints sF9 sN9 (sN9.isList (by k_mem)) (IsPart.int _ _) IsPart.none sI9 (kmk_from sI9 (fmod_lo _ (by decide))) rfl ?_ (by with_unfolding_all rfl) (by intro _; with_unfolding_all rfl) (by simp only [List.size_toArray, PyProof.Rows.IntsAre.length sI9, List.length_map, List.length_take, PySem.sizeLine_eq]; omega)); intro D9 w9 h' F' N' l1 sI8 sL8 sL7))
theorem law_c {w : World} {s : Shared} {mean : ExcName → Option Value} {mg mb : Str → Option Value} {R : Result → Shared → Prop} (l : Addr) (vs : List Value) (ns : List Int)
    (X : (Kf w.params).In s.heap) (T : Top qv (looseW qv lo) mean mg mb s.heap)
    (hl : s.heap.IsList l vs.toArray) (hi : IntsAre vs ns) (hn : ns.length ≤ 63)
    (hP : ∀ e, e = [32] ∨ e = [] → PlainOK (kindsS ns) ((kindsS ns).flatMap fun k => sgn k.toNat) e)
    (hret : ∀ h' tk', (∀ b o, s.heap.get? b = some o → h'.get? b = some o) → R (.ok (.ret (.bool true))) { s with heap := h', toks := tk' }) :
    codeP (model PySem.Challenge.rw_rw0035_01.prog w) callerA (.call (.ref 137) ⟨[.ref l], []⟩) R s := by
  have hd : callerA.depth + 20 < recursionLimit := by decide +kernel
  have hu : callerA.units + 400 < cLine := by decide +kernel
  (k_dflt (refine' enterP ?x1 ?x2 ?o1 ?o2 ?o3 ?o4 ?o5 ?o6 ?o7 ?o8 ?o9 ?_; (case x1 => assumption); (case x2 => assumption); (case o1 => k_is); (case o2 => k_is); (case o3 => omega); (case o4 => exact BindsTo.of_eq rfl); (case o5 => exact rfl); (case o6 => decide); (case o7 => rfl); (case o8 => rfl); (case o9 => rfl)); intro L h₁ tk F N; (try k_fold))
  replace hP := Hid9.mk hP
  k_with_none
  ((with_reducible refine wpP_execs_cons (wpP_of ?_)); k_steps)
  ((with_reducible refine wpP_execs_cons (wpP_of ?_)); k_steps)
  ((with_reducible refine wpP_execs_cons (wpP_of ?_)); k_steps)
  all_goals (try dsimp only)
  all_goals ((with_reducible refine wpP_execs_cons (wpP_of ?_)); k_steps)
  all_goals (try dsimp only)
  all_goals ((with_reducible refine wpP_execs_cons (wpP_of ?_)); k_steps)
  all_goals (try dsimp only)
  all_goals (with_reducible rename (IntsAre _ (_ ++ _ ++ _)) => hI9)
  · rw [kinds_a (by with_reducible assumption) (by with_reducible assumption) (by with_reducible assumption)] at hI9
    have hok := kindsS_ok ns
    with_reducible rename Fr _ _ _ _ => F9
    with_reducible rename News _ _ _ _ => N9
    have N8 := fun p (hp : p ∈ [_]) => N9 p (by rw [List.mem_singleton.mp hp]; exact .head _)
    have F8 := fr_cut F9 (by rfl) (by rfl)
    with_unfolding_all refine law_mid (s := s) X T hl hi hn hI9 hok.2 hok.1 ⟨law9_of hI9 (.inl rfl) (hP.out _ (.inl rfl))⟩ ⟨law9_of hI9 (.inr rfl) (hP.out _ (.inr rfl))⟩ ?_ F8 N8
    exact fun h' tk' hk => hret h' tk' hk
  · rw [kinds_b (by with_reducible assumption) (by with_reducible assumption) (by with_reducible assumption)] at hI9
    have hok := kindsS_ok ns
    with_reducible rename Fr _ _ _ _ => F9
    with_reducible rename News _ _ _ _ => N9
    have N8 := fun p (hp : p ∈ [_]) => N9 p (by rw [List.mem_singleton.mp hp]; exact .head _)
    have F8 := fr_cut F9 (by rfl) (by rfl)
    with_unfolding_all refine law_mid (s := s) X T hl hi hn hI9 hok.2 hok.1 ⟨law9_of hI9 (.inl rfl) (hP.out _ (.inl rfl))⟩ ⟨law9_of hI9 (.inr rfl) (hP.out _ (.inr rfl))⟩ ?_ F8 N8
    exact fun h' tk' hk => hret h' tk' hk
end
end
end
section
open Sem (wp)
noncomputable abbrev G0 : PySem.Ctx := ⟨.builtin "claim.caller" {}, none, none, [], none⟩
noncomputable def wp0 {α : Type} (M : Model) (t : Sem α) (Q : α → Shared → Prop) (E : Value → Shared → Prop) (s : Shared) : Prop := ∀ p, wp M G0 t (fun a _ s' => Q a s') (fun e _ s' => E e s') p s
theorem wp0_of {α : Type} {M : Model} {t : Sem α} {Q : α → Shared → Prop} {E : Value → Shared → Prop} {s : Shared} (h : wpAny M callerA t Q E s) : wp0 M t Q E s := fun p => h G0 p caller_in
theorem wp0_bind {α β : Type} {M : Model} {m : Sem α} {f : α → Sem β} {Q : β → Shared → Prop} {E : Value → Shared → Prop} {s : Shared} (h : wp0 M m (fun a s' => wp0 M (f a) Q E s') E s) : wp0 M (m >>= f) Q E s := fun p => by
  rw [Sem.wp_bind']
  exact Sem.wp_mono M G0 m (fun a p' s' h' => h' p') (fun _ _ _ h' => h') p s (h p)
theorem wp0_call {M : Model} {f : Value} {pos : List Value} {Q : Value → Shared → Prop} {E : Value → Shared → Prop} {s : Shared}
    (hc : codeP M callerA (.call f ⟨pos, []⟩) (fun r s' => match r with | .ok (.ret v) => Q v s' | .ok _ => False | .error e => E e s') s) : wp0 M (call f pos []) Q E s := fun p => by
  show wp M G0 (runValue _) _ _ p s
  rw [Sem.wp_runValue]
  exact hc _ p rfl (caller_in.enter _ none p (by intro x; cases x)) rfl
theorem halts0 {prog : Program} {w : World} {t : Sem Fin} {s : Shared} {R : Result → Shared → Prop} (hz : s.asleep)
    (h : wp0 (model prog w) t (fun fin s' => ∃ f, fin = .done f ∧ (R (.ok f) s' ∧ s'.gens = #[])) (fun e s' => R (.error e) s' ∧ s'.gens = #[]) s) :
    ∃ n r s', runN (denote table) prog w n s ⟨t, .builtin "claim.caller" {}, default, []⟩ = .halted (outcomeOf r) s' ∧ schedN (denote table) prog w n (.single s ⟨t, .builtin "claim.caller" {}, default, []⟩) = .halted (outcomeOf r) s' ∧ R r s' := by
  obtain ⟨n, r, s₁, s₂, hs, hn, hf, hR, hg⟩ := wp_halts_full (M := model prog w) (c := .builtin "claim.caller" {}) (R := fun r s' => R r s' ∧ s'.gens = #[]) hz
    (Sem.wp_mono _ _ _ (fun fin p' s' x => by
      obtain ⟨f, rfl, a, b⟩ := x
      exact ⟨⟨a, b⟩, by rw [b]; simp [leftWithCleanup]⟩) (fun e p' s' x => ⟨⟨x.1, x.2⟩, by rw [x.2]; simp [leftWithCleanup]⟩) default s (h default))
  obtain rfl : s₂ = s₁ := Shared.eq_of_forget_eq hf hg
  exact ⟨n, r, s₂, hn, hs, hR⟩
theorem stub0 {w : World} {s : Shared} {mean : ExcName → Option Value} {mg mb : Str → Option Value} (l : Addr) (vs : List Value) (ns : List Int)
    (X : (Kf w.params).In s.heap) (T : Top qv (looseW qv lo) mean mg mb s.heap) (hl : s.heap.IsList l vs.toArray) (hi : IntsAre vs ns) (hn : ns.length ≤ 63)
    (hP : ∀ e, e = [32] ∨ e = [] → PlainOK (kindsS ns) ((kindsS ns).flatMap fun k => sgn k.toNat) e) {Q : Fin → Shared → Prop} {E : Value → Shared → Prop}
    (hret : ∀ h' tk', (∀ b o, s.heap.get? b = some o → h'.get? b = some o) → Q (.done (.ret (.bool true))) { s with heap := h', toks := tk' }) :
    wp0 (model PySem.Challenge.rw_rw0035_01.prog w) (callStub (Str.ofString "law") [.ref l]).cur Q E s := by
  have hm : mg (Str.ofString "law") = some (.ref 137) := mg_of X T.g (by k_is)
  refine wp0_bind (wp0_of (wpAny_nsGet T.g ?_))
  rw [hm]
  refine wp0_bind (wp0_call (law_c l vs ns X T hl hi hn hP fun h' tk' hk => ?_))
  exact wp0_of (wpAny_pure (hret h' tk' hk))
end
end
section
theorem args9 {w : World} {cl : Str → Option Addr} {h : Heap} {args : List WData} {vals : List Value} {as : List Addr} (hpre : PySem.Challenge.rw_rw0035_01.row.toRowW.claim.pre args = true) (hlay : WData.layableAll args = true) (hrd : ReadsAllW PySem.Challenge.rw_rw0035_01.row.toRowW.records cl h vals args as) (hwl : WellAll w.params h vals args) (hlo : ∀ a ∈ as, (a == sysModules) = false) :
    ∃ l its ns, vals = [.ref l] ∧ h.IsList l (List.toArray its) ∧ IntsAre its ns ∧ ns.length ≤ 63 := by
  wrow_args hpre hlay hrd hwl hlo
  exact ⟨_, _, _, rfl, by assumption, by assumption, by omega⟩
theorem hold_end (said : PySem.Challenge.rw_rw0035_01.row.wellSaid = true) (left : LeftO PySem.Challenge.rw_rw0035_01.row.prog qv lo Xt hk.obs hk.val 36486)
    (plain : ∀ (ns : List Int) (e : List Nat), e = [32] ∨ e = [] → PlainOK (kindsS ns) ((kindsS ns).flatMap fun k => sgn k.toNat) e) : PySem.Challenge.rw_rw0035_01.row.Holds := by
  have hw : PySem.Challenge.rw_rw0035_01.row.toRowW.promised := ⟨[.list [.int 3, .int 1]], by decide +kernel, by decide +kernel⟩
  refine ⟨said, hw, ⟨⟨⟨rfl, rfl, rfl, rfl, rfl, by decide +kernel⟩, by decide +kernel, rfl⟩, hw.witness, fun w => ?_⟩⟩
  have lb := left.behind (XP := fun _ _ => True) (fun _ _ => trivial) (by decide +kernel) w
  refine ⟨lb.1, fun s' hs' => ?_⟩
  obtain ⟨s₀, hf, hg0, s, hT, hz, hgens, hg, G, y⟩ := lb.2 s' hs'
  have hgens : s.gens = #[] := Array.eq_empty_of_size_eq_zero (beq_iff_eq.mp hgens)
  refine ⟨s₀, hf, hg0, s, hT, ?_, (fun x hx => nomatch hx), (fun x hx => nomatch hx), ?_⟩
  · intro n hn
    have e : n = Str.ofString "law" := List.mem_singleton.mp hn
    subst e
    exact pinned_of_view (q := qv) hg G (by rfl) (by rfl) (by rfl)
  · intro args hpre hlay ord hord
    obtain ⟨⟨vs, s₁⟩, hlaid⟩ := Option.isSome_iff_exists.mp (layAllW_isSome (P := w.params) (ord := ord) G.has args _ s (pre_splitW hpre).1)
    have keeps := layAllW_keeps _ _ _ hlaid
    have hal := layAllW_rest _ _ _ hlaid
    obtain ⟨as, hrd, hin, hold⟩ := reads_layAllW hord _ _ _ hlaid hlay s₁.heap (fun _ _ e => e)
    have X : (Kf w.params).In s₁.heap := kIn_of (hk.keeps w _ _ (hk.of w s y) keeps)
    have T := G.T.keeps keeps
    have hwl := well_layAllW hord args s _ hlaid s₁.heap fun _ _ e => e
    obtain ⟨l, its, ns, rfl, hl, hi, hn⟩ := args9 hpre hlay hrd hwl (fun a ha => beq_eq_false_iff_ne.mpr fun e => by have := (hin.2.2 a ha).1; subst e; exact absurd G.low (Nat.not_lt.mpr this))
    have hg1 : s₁.gens = #[] := hal.1.trans hgens
    obtain ⟨k, r, s₂, hrun, hsched, hE, hos⟩ := halts0 (R := fun r s' => PySem.Challenge.rw_rw0035_01.row.toRowW.claim.Ends s args [.ref l] s₁ r s' ∧ s'.os = s.os) (Shared.asleep_of_life hal.2.2.2 hz) (stub0 l its ns X T hl hi hn (plain ns) (fun h' tk' hk' => ⟨_, rfl, by
      have g : GoodW PySem.Challenge.rw_rw0035_01.row.toRowW.claim (classAt s.heap) (ExcName.means s.heap) args s₁ (.ok (.ret (.bool true))) { s₁ with heap := h', toks := tk' } :=
        ⟨.inl ⟨.bool true, .bool true, [], rfl, fun _ => rfl, .bool true, by wrow_post, fun _ => ⟨List.nodup_nil, fun a ha => nomatch ha⟩⟩, hk', rfl, hg1⟩
      have z := GoodW.ends (c := PySem.Challenge.rw_rw0035_01.row.toRowW.claim) (s := s) rfl (ident_freeW (r := PySem.Challenge.rw_rw0035_01.row.toRowW) rfl rfl rfl) hord hlaid hlay g
      exact ⟨⟨z.1, z.2.1⟩, z.2.2⟩⟩))
    have hlife : s₂.heap.life = s.heap.life := (runN_life _ _ _ hrun).trans hal.2.2.2
    refine ⟨_, s₁, hlaid, k, _, s₂, hsched, ?_, (fun _ i x hx => by rw [hgens] at hx; simp at hx), (fun q => nomatch q), by rw [hlife], Shared.rest_eq hos⟩
    rcases hE with ⟨v, rfl, d1, d2, d3, d4, d5⟩ | ⟨e, ob, cls, rfl, d1, d2, d3, d4, d5⟩
    · exact .inl ⟨v, rfl, d1, d2, d3, fun b o y _ => d4 b o y, d5⟩
    · exact .inr ⟨e, ob, cls, rfl, d1, d2, d3, d4, fun b o y _ => d5 b o y⟩
end
section
noncomputable def PT (ks : List Int) : List Nat := ks.flatMap fun k => pce k.toNat
noncomputable def Low (ks : List Int) : Prop := ∀ k ∈ ks, 0 ≤ k ∧ k < 24
theorem PT_cons (k : Int) (ks : List Int) : PT (k :: ks) = pce k.toNat ++ PT ks := by simp [PT]
theorem PT_app (a c : List Int) : PT (a ++ c) = PT a ++ PT c := by simp [PT]
theorem pce_form {k : Int} (h : 0 ≤ k ∧ k < 24) : (∃ c, pce k.toNat = [c] ∧ c ≠ 61) ∨ ∃ x y, pce k.toNat = [61, x, y] ∧ x ≠ 61 ∧ y ≠ 61 := by
  obtain ⟨n, rfl⟩ : ∃ n : Nat, k = n := ⟨k.toNat, by omega⟩
  rw [Int.toNat_natCast]
  unfold pce
  by_cases h1 : n < 10
  · rw [if_pos h1]; exact .inl ⟨_, rfl, by omega⟩
  · rw [if_neg h1]
    by_cases h2 : n < 20
    · rw [if_pos h2]; exact .inr ⟨_, _, rfl, by omega, by omega⟩
    · rw [if_neg h2]
      by_cases h3 : n = 20
      · rw [if_pos h3]; exact .inr ⟨_, _, rfl, by omega, by omega⟩
      · rw [if_neg h3]
        by_cases h4 : n = 21
        · rw [if_pos h4]; exact .inl ⟨_, rfl, by omega⟩
        · rw [if_neg h4]
          by_cases h5 : n = 22
          · rw [if_pos h5]; exact .inl ⟨_, rfl, by omega⟩
          · rw [if_neg h5]; exact .inl ⟨_, rfl, by omega⟩
theorem eq_in : ∀ {a : List Int}, Low a → ∀ i, (PT a)[i]? = some 61 → i + 2 < (PT a).length
  | [], _, i, h => by simp [PT] at h
  | k :: a, hl, i, h => by
    have ih := eq_in (a := a) fun z hz => hl z (.tail _ hz)
    rw [PT_cons] at h ⊢
    rcases pce_form (hl k (.head _)) with ⟨c, e, hc⟩ | ⟨x, y, e, hx, hy⟩
    · rw [e] at h ⊢
      cases i with
      | zero => simp at h; exact absurd h hc
      | succ i =>
        have := ih i (by simpa using h)
        simp only [List.length_append, List.length_cons, List.length_nil]; omega
    · rw [e] at h ⊢
      match i with
      | 0 => simp only [List.length_append, List.length_cons, List.length_nil]; omega
      | 1 => simp at h; exact absurd h hx
      | 2 => simp at h; exact absurd h hy
      | i + 3 =>
        have := ih i (by simpa using h)
        simp only [List.length_append, List.length_cons, List.length_nil]; omega
theorem greedy {w : Nat} : ∀ (ks : List Int) (acc : Nat), Low ks → acc ≤ w - 1 → w < acc + (PT ks).length →
    ∃ a c0 c, ks = a ++ c0 :: c ∧ acc + (PT a).length ≤ w - 1 ∧ w ≤ acc + (PT a).length + (pce c0.toNat).length
  | [], acc, _, h1, h2 => by simp [PT] at h2; omega
  | k :: ks, acc, hl, h1, h2 => by
    by_cases h : acc + (pce k.toNat).length ≤ w - 1
    · rw [PT_cons, List.length_append] at h2
      obtain ⟨a, c0, c, e, h3, h4⟩ := greedy (w := w) ks (acc + (pce k.toNat).length) (fun z hz => hl z (.tail _ hz)) h (by omega)
      exact ⟨k :: a, c0, c, by rw [e]; rfl, by rw [PT_cons, List.length_append]; omega, by rw [PT_cons, List.length_append]; omega⟩
    · exact ⟨[], k, ks, rfl, by simp [PT]; omega, by simp [PT]; omega⟩
noncomputable def finR2 (w : Nat) (r : List Nat) : List (List Nat) :=
  if r.getLast? = some 32 ∨ r.getLast? = some 9 then
    (if r.length + 2 ≤ w then [r.dropLast ++ qS (r.getLastD 0)] else if r.length + 1 = w then [r ++ [61], []] else [r.dropLast ++ [61], qS (r.getLastD 0)])
  else [r]
noncomputable def cut2 (w : Nat) : Nat → List Nat → List (List Nat)
  | 0, r => finR2 w r
  | n + 1, r => if r.length ≤ w then finR2 w r
    else if r[w - 3]? = some 61 then r.take (w - 2) :: cut2 w n (r.drop (w - 3))
    else if r[w - 2]? = some 61 then r.take (w - 1) :: cut2 w n (r.drop (w - 2))
    else (r.take (w - 1) ++ [61]) :: cut2 w n (r.drop (w - 1))
theorem cut2_step {w n : Nat} {a c : List Int} {c0 : Int} (hw : 4 ≤ w) (hl : Low (a ++ c0 :: c)) (hn : w < (PT (a ++ c0 :: c)).length) (h1 : (PT a).length ≤ w - 1) (h2 : w ≤ (PT a).length + (pce c0.toNat).length) :
    cut2 w (n + 1) (PT (a ++ c0 :: c)) = (PT a ++ [61]) :: cut2 w n (PT (c0 :: c)) := by
  have ha : Low a := fun z hz => hl z (List.mem_append.mpr (.inl hz))
  have hc0 := hl c0 (by simp)
  have noeq : ∀ i, i < (PT a).length → (PT a).length ≤ i + 2 → (PT (a ++ c0 :: c))[i]? ≠ some 61 := fun i hi hj q => by
    rw [PT_app, List.getElem?_append_left hi] at q
    have := eq_in ha i q
    omega
  have htake : ∀ m, m = (PT a).length → (PT (a ++ c0 :: c)).take m = PT a := fun m hm => by
    rw [PT_app, hm, List.take_left]
  have hdrop : ∀ m, m = (PT a).length → (PT (a ++ c0 :: c)).drop m = PT (c0 :: c) := fun m hm => by
    rw [PT_app, hm, List.drop_left]
  obtain ⟨v, rfl⟩ : ∃ v, w = v + 4 := ⟨w - 4, by omega⟩
  replace h1 : (PT a).length ≤ v + 3 := h1
  rw [cut2, if_neg (by omega), show v + 4 - 1 = v + 3 from rfl, show v + 4 - 2 = v + 2 from rfl, show v + 4 - 3 = v + 1 from rfl]
  rcases pce_form hc0 with ⟨x, e, hx⟩ | ⟨x, y, e, hx, hy⟩
  · rw [e] at h2
    simp only [List.length_cons, List.length_nil] at h2
    have hm : v + 3 = (PT a).length := by omega
    rw [if_neg (noeq (v + 1) (by omega) (by omega)), if_neg (noeq (v + 2) (by omega) (by omega)), htake _ hm, hdrop _ hm]
  · have at0 : (PT (a ++ c0 :: c))[(PT a).length]? = some 61 := by
      rw [PT_app, List.getElem?_append_right (Nat.le_refl _), Nat.sub_self, PT_cons, e]; rfl
    have take1 : ∀ m, m = (PT a).length + 1 → (PT (a ++ c0 :: c)).take m = PT a ++ [61] := fun m hm => by
      rw [PT_app, hm, List.take_length_add_append, PT_cons, e]; rfl
    rw [e] at h2
    simp only [List.length_cons, List.length_nil] at h2
    by_cases q3 : (PT a).length = v + 1
    · rw [if_pos (by rw [← q3]; exact at0), take1 _ (by omega), hdrop _ q3.symm]
    · rw [if_neg (noeq (v + 1) (by omega) (by omega))]
      by_cases q2 : (PT a).length = v + 2
      · rw [if_pos (by rw [← q2]; exact at0), take1 _ (by omega), hdrop _ q2.symm]
      · rw [if_neg (noeq (v + 2) (by omega) (by omega)), htake _ (by omega), hdrop _ (by omega)]
theorem run_keep {wd left : Int} : ∀ (ks : List Int) (rows : List Str) (r : List Nat), (left ≤ wd ∨ ((r.length + (PT ks).length : Nat) : Int) < wd) → ks.foldl (stepS wd) (rows, mk r, left) = (rows, mk (r ++ PT ks), left)
  | [], rows, r, _ => by simp [PT]
  | k :: ks, rows, r, h => by
    rw [List.foldl_cons]
    have e : stepS wd (rows, mk r, left) k = (rows, mk (r ++ pce k.toNat), left) := by
      unfold stepS
      rw [PT_cons, List.length_append] at h
      simp only [mk_app, mk_len, List.length_append]
      rw [if_neg (by omega)]
    rw [e, run_keep ks rows (r ++ pce k.toNat) (by rw [PT_cons, List.length_append] at h; rw [List.length_append]; omega), PT_cons, List.append_assoc]
theorem run_cut {w : Nat} (hw : 4 ≤ w) : ∀ (n : Nat) (ks : List Int) (rows : List Str), Low ks → (PT ks).length ≤ n →
    ∃ X ks' left', ks.foldl (stepS w) (rows, mk [], ((PT ks).length : Int)) = (rows ++ X.map mk, mk (PT ks'), left') ∧ cut2 w n (PT ks) = X ++ finR2 w (PT ks') ∧ (PT ks').length ≤ w ∧ (∃ a, ks = a ++ ks') ∧ (ks ≠ [] → ks' ≠ [])
  | 0, ks, rows, hl, hn => by
    have h0 : (PT ks).length ≤ w := by omega
    refine ⟨[], ks, ((PT ks).length : Int), ?_, rfl, h0, ⟨[], rfl⟩, id⟩
    rw [run_keep ks rows [] (.inl (by omega))]
    simp
  | n + 1, ks, rows, hl, hn => by
    by_cases h0 : (PT ks).length ≤ w
    · refine ⟨[], ks, ((PT ks).length : Int), ?_, by rw [cut2, if_pos h0]; rfl, h0, ⟨[], rfl⟩, id⟩
      rw [run_keep ks rows [] (.inl (by omega))]
      simp
    · obtain ⟨a, c0, c, e, h1, h2⟩ := greedy (w := w) ks 0 hl (by omega) (by omega)
      subst e
      rw [Nat.zero_add] at h1 h2
      have hc : Low (c0 :: c) := fun z hz => hl z (List.mem_append.mpr (.inr hz))
      have h3 : (pce c0.toNat).length ≤ 3 := pce_len _
      have hlen : (PT (a ++ c0 :: c)).length = (PT a).length + (PT (c0 :: c)).length := by rw [PT_app, List.length_append]
      obtain ⟨X, ks', left', e1, e2, e3, ⟨a', e4⟩, e5⟩ := run_cut hw n (c0 :: c) (rows ++ [mk (PT a ++ [61])]) hc (by omega)
      refine ⟨(PT a ++ [61]) :: X, ks', left', ?_, by rw [cut2_step hw hl (by omega) h1 h2, e2]; rfl, e3, ⟨a ++ a', by rw [e4, List.append_assoc]⟩, fun _ => e5 (by simp)⟩
      rw [List.foldl_append, run_keep a rows [] (.inr (by rw [List.length_nil]; omega)), List.nil_append, List.foldl_cons]
      have s1 : stepS w (rows, mk (PT a), ((PT (a ++ c0 :: c)).length : Int)) c0 = (rows ++ [mk (PT a ++ [61])], mk (pce c0.toNat), ((PT (c0 :: c)).length : Int)) := by
        unfold stepS
        simp only [mk_app, mk_len, List.length_append, eq_mk, empty_mk, List.nil_append]
        rw [if_pos (by omega), hlen]
        congr 2
        omega
      have s2 : stepS w (rows ++ [mk (PT a ++ [61])], mk [], ((PT (c0 :: c)).length : Int)) c0 = (rows ++ [mk (PT a ++ [61])], mk (pce c0.toNat), ((PT (c0 :: c)).length : Int)) := by
        unfold stepS
        simp only [mk_app, mk_len, List.nil_append]
        rw [if_neg (by omega)]
      rw [s1, ← s2, ← List.foldl_cons, e1]
      simp
end
section
theorem last_pce {k : Int} (h : 0 ≤ k ∧ k < 24) : (∃ l c, pce k.toNat = l ++ [c] ∧ (c = 32 ↔ k = 22) ∧ (c = 9 ↔ k = 23)) := by
  obtain ⟨n, rfl⟩ : ∃ n : Nat, k = n := ⟨k.toNat, by omega⟩
  rw [Int.toNat_natCast]
  unfold pce
  by_cases h1 : n < 10
  · rw [if_pos h1]; exact ⟨[], _, rfl, by omega, by omega⟩
  · rw [if_neg h1]
    by_cases h2 : n < 20
    · rw [if_pos h2]; exact ⟨[61, 49], _, rfl, by omega, by omega⟩
    · rw [if_neg h2]
      by_cases h3 : n = 20
      · rw [if_pos h3]; exact ⟨[61, 51], _, rfl, by omega, by omega⟩
      · rw [if_neg h3]
        by_cases h4 : n = 21
        · rw [if_pos h4]; exact ⟨[], _, rfl, by omega, by omega⟩
        · rw [if_neg h4]
          by_cases h5 : n = 22
          · rw [if_pos h5]; exact ⟨[], _, rfl, by omega, by omega⟩
          · rw [if_neg h5]; exact ⟨[], _, rfl, by omega, by omega⟩
theorem last_PT {ks : List Int} (hl : Low ks) (hne : ks ≠ []) : ∃ l c, PT ks = l ++ [c] ∧ (c = 32 ↔ ks.getLastD 0 = 22) ∧ (c = 9 ↔ ks.getLastD 0 = 23) := by
  obtain ⟨ini, k, rfl⟩ : ∃ ini k, ks = ini ++ [k] := ⟨ks.dropLast, ks.getLast hne, (List.dropLast_concat_getLast hne).symm⟩
  obtain ⟨l, c, e, h1, h2⟩ := last_pce (hl k (by simp))
  refine ⟨PT ini ++ l, c, ?_, ?_, ?_⟩
  · rw [PT_app]
    have : PT [k] = pce k.toNat := by simp [PT]
    rw [this, e, List.append_assoc]
  · rw [h1]; simp
  · rw [h2]; simp
theorem slice_noLast (l : List Nat) (c : Nat) : Txt.slice (mk (l ++ [c])) none (some (-1)) = mk l := by
  have e : Txt.slice (mk (l ++ [c])) none (some (-1)) = Txt.slice (mk (l ++ [c])) (some ((0 : Nat) : Int)) (some (-1)) := by
    unfold Txt.slice
    rw [PySem.StrLaws.sliceIdx_none_lo]
    rfl
  rw [e, slice_init (by rw [mk_len, List.length_append, List.length_singleton]; omega)]
  have h : (mk (l ++ [c])).cps.toList = l ++ [c] := by simp [mk]
  rw [h, List.drop_zero, List.dropLast_concat]
theorem q20 : Str.ofString "=20" = mk (qS 32) := by decide +kernel
theorem q09 : Str.ofString "=09" = mk (qS 9) := by decide +kernel
theorem fin_eq {w : Nat} {a ks ks' : List Int} {rows : List Str} (hw : 4 ≤ w) (hl : Low ks) (e : ks = a ++ ks') (hne : ks ≠ [] → ks' ≠ []) (hlen : (PT ks').length ≤ w) :
    finR (w : Int) ks rows (mk (PT ks')) = rows ++ (finR2 w (PT ks')).map mk := by
  by_cases h0 : ks = []
  · have h1 : ks' = [] := by
      subst h0
      cases a with
      | nil => exact e.symm
      | cons _ _ => cases e
    subst h1
    unfold finR finR2
    rw [if_pos (.inl h0), if_neg (by simp [PT])]
    rfl
  · have hl' : Low ks' := fun z hz => hl z (by rw [e]; exact List.mem_append.mpr (.inr hz))
    obtain ⟨l, c, ey, h22, h23⟩ := last_PT hl' (hne h0)
    have hlast : ks.getLastD 0 = ks'.getLastD 0 := by
      obtain ⟨ini, k, ek⟩ : ∃ ini k, ks' = ini ++ [k] := ⟨ks'.dropLast, ks'.getLast (hne h0), (List.dropLast_concat_getLast (hne h0)).symm⟩
      rw [e, ek, ← List.append_assoc]
      simp
    rw [ey] at hlen ⊢
    have hlc : (l ++ [c]).length = l.length + 1 := by simp
    rw [hlc] at hlen
    unfold finR finR2
    rw [hlast, mk_len, hlc, List.getLast?_append, List.dropLast_concat, slice_noLast]
    have hD : (l ++ [c]).getLastD 0 = c := by simp
    rw [hD]
    simp only [List.getLast?_singleton, Option.some_or, Option.some.injEq, eq_mk, empty_mk, mk_app]
    by_cases hb : c = 32 ∨ c = 9
    · rw [if_pos hb]
      have hk : ks'.getLastD 0 = 22 ∨ ks'.getLastD 0 = 23 := hb.imp h22.mp h23.mp
      have n0 : ¬ (ks = [] ∨ ([22, 23].any fun x => x == ks'.getLastD 0) = false) := by
        rintro (q | q)
        · exact h0 q
        · rcases hk with k1 | k1 <;> rw [k1] at q <;> simp at q
      rw [if_neg n0]
      have coded : (if ks'.getLastD 0 = 22 then Str.ofString "=20" else Str.ofString "=09") = mk (qS c) := by
        rcases hb with rfl | rfl
        · rw [if_pos (h22.mp rfl), q20]
        · rw [if_neg (by have := h23.mp rfl; omega), q09]
      rw [coded]
      by_cases g1 : l.length + 1 + 2 ≤ w
      · rw [if_neg (by omega), if_neg (by omega), if_pos g1, mk_app]
        rfl
      · by_cases g2 : l.length + 1 + 1 = w
        · rw [if_pos (by omega), if_neg g1, if_pos g2]
          rfl
        · rw [if_neg (by omega), if_pos (by omega), if_neg g1, if_neg g2]
          rfl
    · rw [if_neg hb]
      have k0 : ([22, 23].any fun x => x == ks'.getLastD 0) = false := by
        have k1 : ks'.getLastD 0 ≠ 22 := fun q => hb (.inl (h22.mpr q))
        have k2 : ks'.getLastD 0 ≠ 23 := fun q => hb (.inr (h23.mpr q))
        simp only [List.any_cons, List.any_nil, Bool.or_false, Bool.or_eq_false_iff, beq_eq_false_iff_ne]
        exact ⟨Ne.symm k1, Ne.symm k2⟩
      rw [if_pos (.inr k0)]
      rfl
theorem rows_eq {w n : Nat} {ks : List Int} (hw : 4 ≤ w) (hl : Low ks) (hn : (PT ks).length ≤ n) : rowsS (w : Int) ks = (cut2 w n (PT ks)).map mk := by
  obtain ⟨X, ks', left', e1, e2, e3, ⟨a, e4⟩, e5⟩ := run_cut hw n ks [] hl hn
  have e0 : runS (w : Int) ((mk (ks.flatMap fun k => pce k.toNat)).length : Int) ks = (X.map mk, mk (PT ks'), left') := by
    unfold runS
    rw [empty_mk, mk_len]
    exact e1.trans (by simp)
  unfold rowsS
  rw [e0, e2]
  simp only []
  rw [fin_eq hw hl e4 e5 e3, List.map_append]
theorem fin12 {w : Nat} {e r : List Nat} : (∃ u v, finR1 w e r = u ++ [61] ++ e ++ v ∧ finR2 w r = [u ++ [61], v]) ∨ finR2 w r = [finR1 w e r] := by
  unfold finR1 finR2
  by_cases h : r.getLast? = some 32 ∨ r.getLast? = some 9
  · rw [if_pos h, if_pos h]
    by_cases h1 : r.length + 2 ≤ w
    · rw [if_pos h1, if_pos h1]; exact .inr rfl
    · rw [if_neg h1, if_neg h1]
      by_cases h2 : r.length + 1 = w
      · rw [if_pos h2, if_pos h2]
        refine .inl ⟨r, [], ?_, rfl⟩
        obtain ⟨c, hc⟩ : ∃ c, r.getLast? = some c := by rcases h with h | h <;> exact ⟨_, h⟩
        have e3 : r = r.dropLast ++ [c] := by
          have hne : r ≠ [] := by rintro rfl; simp at hc
          have := List.dropLast_concat_getLast hne
          rw [List.getLast?_eq_some_getLast hne] at hc
          rw [← Option.some.inj hc]
          exact this.symm
        have e4 : r.getLastD 0 = c := by rw [List.getLastD_eq_getLast?, hc]; rfl
        rw [e4]
        conv => rhs; rw [e3]
        simp
      · rw [if_neg h2, if_neg h2]
        exact .inl ⟨r.dropLast, qS (r.getLastD 0), by simp, rfl⟩
  · rw [if_neg h, if_neg h]; exact .inr rfl
theorem joinL_app (e : List Nat) : ∀ (A B : List (List Nat)), A ≠ [] → B ≠ [] → joinL e (A ++ B) = joinL e A ++ e ++ joinL e B
  | [], _, h, _ => absurd rfl h
  | [x], y :: r, _, _ => by show x ++ e ++ joinL e (y :: r) = _; rfl
  | [x], [], _, h => absurd rfl h
  | x :: y :: A, B, _, h => by
    show x ++ e ++ joinL e (y :: A ++ B) = x ++ e ++ joinL e (y :: A) ++ e ++ joinL e B
    rw [joinL_app e (y :: A) B (by simp) h]
    simp
noncomputable def SameJ (e : List Nat) (A B : List (List Nat)) : Prop := A ≠ [] ∧ B ≠ [] ∧ joinL e A = joinL e B
theorem SameJ.app {e : List Nat} {A B C D : List (List Nat)} (h : SameJ e A B) (k : SameJ e C D) : SameJ e (A ++ C) (B ++ D) :=
  ⟨by simp [h.1], by simp [h.2.1], by rw [joinL_app e A C h.1 k.1, joinL_app e B D h.2.1 k.2.1, h.2.2, k.2.2]⟩
theorem SameJ.refl {e : List Nat} {A : List (List Nat)} (h : A ≠ []) : SameJ e A A := ⟨h, h, rfl⟩
theorem fin_same {w : Nat} {e r : List Nat} : SameJ e [finR1 w e r] (finR2 w r) := by
  rcases fin12 (w := w) (e := e) (r := r) with ⟨u, v, h1, h2⟩ | h
  · rw [h1, h2]
    exact ⟨by simp, by simp, rfl⟩
  · rw [h]; exact .refl (by simp)
theorem cut_same {w : Nat} {e : List Nat} : ∀ (n : Nat) (r : List Nat), SameJ e (cutF w e n r) (cut2 w n r)
  | 0, r => fin_same
  | n + 1, r => by
    rw [cutF, cut2]
    split
    · exact fin_same
    · split
      · exact (SameJ.refl (A := [r.take (w - 2)]) (by simp)).app (cut_same n _)
      · split
        · exact (SameJ.refl (A := [r.take (w - 1)]) (by simp)).app (cut_same n _)
        · exact (SameJ.refl (A := [r.take (w - 1) ++ [61]]) (by simp)).app (cut_same n _)
theorem same_flat {α : Type} {e : List Nat} {f g : α → List (List Nat)} : ∀ l : List α, l ≠ [] → (∀ x ∈ l, SameJ e (f x) (g x)) → SameJ e (l.flatMap f) (l.flatMap g)
  | [], h, _ => absurd rfl h
  | [x], _, h => by simpa using h x (.head _)
  | x :: y :: l, _, h => by
    have := same_flat (y :: l) (by simp) fun z hz => h z (.tail _ hz)
    rw [List.flatMap_cons, List.flatMap_cons (f := g)]
    exact (h x (.head _)).app this
end
section
noncomputable def linF : List Nat → List Nat → List (List Nat)
  | pre, [] => if pre = [] then [] else [pre]
  | pre, c :: r => if c = 10 then pre :: linF [] r else linF (pre ++ [c]) r
noncomputable def splF : List Nat → List Nat → List (List Nat)
  | pre, [] => [pre]
  | pre, c :: r => if c = 10 then pre :: splF [] r else splF (pre ++ [c]) r
noncomputable def splK : List Int → List Int → List (List Int)
  | ln, [] => [ln]
  | ln, k :: r => if k = 24 then ln :: splK [] r else splK (ln ++ [k]) r
open PySem.StrLaws in
noncomputable def spanL (T : List Nat) (p : Nat × Nat × Nat) : List Nat := (T.drop p.1).take (p.2.1 - p.1)
open PySem.StrLaws Builtin Builtin.Str in
theorem ls_lin (T : List Nat) (hT : ∀ c ∈ T, (Unicode.isLineBreak c = true ↔ c = 10) ∧ c ≠ 13) : ∀ (m cur : Nat) (arr : Array (Nat × Nat × Nat)) (start : Nat), cur + m = T.length → start ≤ cur →
    (lsEnd (mk T) (Id.run (forIn (m := Id) (List.range' cur m) ((arr, start) : LsSt) (lsBody (mk T))))).map (spanL T) = arr.toList.map (spanL T) ++ linF ((T.drop start).take (cur - start)) (T.drop cur)
  | 0, cur, arr, start, hm, hs => by
    have hlen : (mk T).length = T.length := mk_len T
    show (lsEnd (mk T) (arr, start)).map (spanL T) = _
    have hd : T.drop cur = [] := List.drop_of_length_le (by omega)
    rw [hd]
    unfold lsEnd
    simp only []
    by_cases h : start < (mk T).length
    · rw [if_pos h, Array.toList_push, List.map_append]
      congr 1
      have hne : (T.drop start).take (cur - start) ≠ [] := by
        intro q
        have := congrArg List.length q
        rw [List.length_take, List.length_drop, List.length_nil] at this
        omega
      rw [linF, if_neg hne]
      show [(T.drop start).take ((mk T).length - start)] = _
      rw [show (mk T).length - start = cur - start by omega]
    · rw [if_neg h, linF, if_pos, List.append_nil]
      rw [show cur - start = 0 by omega, List.take_zero]
  | m + 1, cur, arr, start, hm, hs => by
    have hlt : cur < T.length := by omega
    have hget : (mk T).cps.getD cur 0 = T[cur] := by simp [mk, Array.getD, hlt]
    have hd : T.drop cur = T[cur] :: T.drop (cur + 1) := List.drop_eq_getElem_cons hlt
    have hc := hT T[cur] (List.getElem_mem hlt)
    rw [List.range'_succ, List.forIn_cons, hd, linF]
    unfold lsBody
    rw [hget]
    by_cases h10 : T[cur] = 10
    · have hb : (decide (start ≤ cur) && Unicode.isLineBreak T[cur]) = true := by rw [hc.1.mpr h10, decide_eq_true hs]; rfl
      have hnx : lsNext (mk T) cur = cur + 1 := by
        unfold lsNext
        rw [hget, h10]
        rfl
      simp only [hb, if_true, hnx]
      have ih := ls_lin T hT m (cur + 1) (arr.push (start, cur, cur + 1)) (cur + 1) (by omega) (Nat.le_refl _)
      unfold lsBody at ih
      rw [show (cur + 1) - (cur + 1) = 0 by omega, List.take_zero, Array.toList_push, List.map_append, List.append_assoc] at ih
      rw [if_pos h10]
      exact ih
    · have hb : (decide (start ≤ cur) && Unicode.isLineBreak T[cur]) = false := by
        have : Unicode.isLineBreak T[cur] = false := by
          cases q : Unicode.isLineBreak T[cur] with
          | false => rfl
          | true => exact absurd (hc.1.mp q) h10
        rw [this, Bool.and_false]
      simp only [hb, if_false, Bool.false_eq_true]
      have ih := ls_lin T hT m (cur + 1) arr start (by omega) (by omega)
      unfold lsBody at ih
      rw [if_neg h10]
      have e : (T.drop start).take (cur + 1 - start) = (T.drop start).take (cur - start) ++ [T[cur]] := by
        rw [show cur + 1 - start = (cur - start) + 1 by omega, List.take_add_one, List.getElem?_drop, show start + (cur - start) = cur by omega, List.getElem?_eq_getElem hlt]
        rfl
      rw [e] at ih
      exact ih
open PySem.StrLaws Builtin Builtin.Str in
theorem lines_eq (T : List Nat) (hT : ∀ c ∈ T, (Unicode.isLineBreak c = true ↔ c = 10) ∧ c ≠ 13) : Txt.lines (mk T) = (linF [] T).map mk := by
  have h1 : (lineSpans (mk T)).map (spanL T) = linF [] T := by
    rw [ls_eq]
    have := ls_lin T hT T.length 0 #[] 0 (by omega) (Nat.le_refl _)
    rw [mk_len]
    simpa using this
  have h2 : linesOf (mk T) = (linF [] T).map mk := by
    unfold linesOf lineCuts
    rw [← h1, List.map_map, List.map_map]
    apply List.map_congr_left
    intro ⟨i, j, k⟩ _
    have e : (strSub (mk T) i j).cps.toList = (T.drop i).take (j - i) := by
      rw [strSub_toList]; simp [mk]
    show strSub (mk T) i j = mk ((T.drop i).take (j - i))
    rw [← e, mk_self]
  unfold Txt.lines
  split
  · rename_i h
    rw [← h2]
    unfold linesOf
    rw [beq_iff_eq.mp h]
    simp only [List.map_cons, List.map_nil]
    rw [sub_whole]
  · exact h2
theorem lin_spl {g : List Nat → List (List Nat)} (hg : g [] = [[]]) : ∀ (T pre : List Nat), (linF pre T).flatMap g ++ (if (T = [] ∧ pre = []) ∨ T.getLast? = some 10 then [[]] else []) = (splF pre T).flatMap g
  | [], pre => by
    rw [linF, splF]
    by_cases h : pre = []
    · rw [if_pos h, if_pos (.inl ⟨rfl, h⟩), h]
      simp [hg]
    · rw [if_neg h, if_neg (by simp [h]), List.append_nil]
  | c :: r, pre => by
    rw [linF, splF]
    by_cases h : c = 10
    · rw [if_pos h, if_pos h, List.flatMap_cons, List.flatMap_cons, List.append_assoc, ← lin_spl hg r []]
      congr 2
      subst h
      cases r with
      | nil => simp
      | cons d r => simp
    · rw [if_neg h, if_neg h, ← lin_spl hg r (pre ++ [c])]
      congr 2
      cases r with
      | nil => simp [h]
      | cons d r => simp
noncomputable def encK (k : Int) : List Nat := if k = 24 then [10] else pce k.toNat
theorem enc_sgn' : ∀ n : Fin 25, (sgn n.val).flatMap encN = encK (n.val : Int) := by decide +kernel
theorem enc_sgn {k : Int} (h : 0 ≤ k ∧ k < 25) : (sgn k.toNat).flatMap encN = encK k := by
  have := enc_sgn' ⟨k.toNat, by omega⟩
  simp only at this
  rw [this, show ((k.toNat : Nat) : Int) = k by omega]
theorem enc_all : ∀ {sg : List Int}, (∀ k ∈ sg, 0 ≤ k ∧ k < 25) → (sg.flatMap fun k => sgn k.toNat).flatMap encN = sg.flatMap encK
  | [], _ => rfl
  | k :: sg, h => by
    rw [List.flatMap_cons, List.flatMap_append, enc_all fun z hz => h z (.tail _ hz), enc_sgn (h k (.head _)), List.flatMap_cons]
theorem splF_app : ∀ (l r pre : List Nat), 10 ∉ l → splF pre (l ++ r) = splF (pre ++ l) r
  | [], r, pre, _ => by simp
  | c :: l, r, pre, h => by
    rw [List.cons_append, splF, if_neg (by intro q; exact h (by rw [q]; exact .head _)), splF_app l r _ (fun q => h (.tail _ q))]
    simp
theorem pce_alf' : ∀ n : Fin 24, ∀ c ∈ pce n.val, (48 ≤ c ∧ c ≤ 57) ∨ c = 61 ∨ c = 68 ∨ c = 40 ∨ c = 32 ∨ c = 9 := by decide +kernel
theorem pce_alf {k : Int} (h : 0 ≤ k ∧ k < 24) : ∀ c ∈ pce k.toNat, (48 ≤ c ∧ c ≤ 57) ∨ c = 61 ∨ c = 68 ∨ c = 40 ∨ c = 32 ∨ c = 9 := pce_alf' ⟨k.toNat, by omega⟩
theorem PT_snoc (ln : List Int) (k : Int) : PT (ln ++ [k]) = PT ln ++ pce k.toNat := by rw [PT_app]; simp [PT]
theorem spl_map : ∀ {rest : List Int} (ln : List Int), (∀ k ∈ rest, 0 ≤ k ∧ k < 25) → splF (PT ln) (rest.flatMap encK) = (splK ln rest).map PT
  | [], ln, _ => rfl
  | k :: rest, ln, h => by
    rw [List.flatMap_cons, splK]
    have hr : ∀ z ∈ rest, 0 ≤ z ∧ z < 25 := fun z hz => h z (.tail _ hz)
    by_cases e : k = 24
    · rw [if_pos e, encK, if_pos e]
      show splF (PT ln) (10 :: rest.flatMap encK) = _
      rw [splF, if_pos rfl, List.map_cons, ← spl_map [] hr]
      rfl
    · have hk := h k (.head _)
      rw [if_neg e, encK, if_neg e, splF_app _ _ _ (fun q => by have := pce_alf (k := k) ⟨hk.1, by omega⟩ 10 q; omega), ← PT_snoc, spl_map (ln ++ [k]) hr]
theorem splK_low : ∀ {rest : List Int} (ln : List Int), (∀ k ∈ rest, 0 ≤ k ∧ k < 25) → Low ln → ∀ g ∈ splK ln rest, Low g
  | [], ln, _, hl, g, hg => by rw [splK] at hg; rw [List.mem_singleton.mp hg]; exact hl
  | k :: rest, ln, h, hl, g, hg => by
    have hr : ∀ z ∈ rest, 0 ≤ z ∧ z < 25 := fun z hz => h z (.tail _ hz)
    have hk := h k (.head _)
    rw [splK] at hg
    by_cases e : k = 24
    · rw [if_pos e] at hg
      rcases List.mem_cons.mp hg with q | q
      · rw [q]; exact hl
      · exact splK_low [] hr (fun _ z => nomatch z) g q
    · rw [if_neg e] at hg
      refine splK_low (ln ++ [k]) hr (fun z hz => ?_) g hg
      rcases List.mem_append.mp hz with q | q
      · exact hl z q
      · rw [List.mem_singleton.mp q]; omega
theorem splK_ne : ∀ (rest ln : List Int), splK ln rest ≠ []
  | [], ln => by simp [splK]
  | k :: rest, ln => by
    rw [splK]
    split
    · simp
    · exact splK_ne rest _
theorem due_spl {wd : Int} : ∀ (rest : List Int) (rows : List Str) (ln : List Int), ((rest ++ [24]).foldl (dueStep wd) (rows, ln)).1 = rows ++ (splK ln rest).flatMap (rowsS wd)
  | [], rows, ln => by simp [splK, dueStep]
  | k :: rest, rows, ln => by
    rw [List.cons_append, List.foldl_cons, splK]
    unfold dueStep
    by_cases e : k = 24
    · rw [if_pos e, if_pos e, List.flatMap_cons, ← List.append_assoc]
      exact due_spl rest (rows ++ rowsS wd ln) []
    · rw [if_neg e, if_neg e]
      exact due_spl rest rows (ln ++ [k])
noncomputable def rowsR (w : Nat) (sg : List Int) : List (List Nat) := (splK [] sg).flatMap fun g => cut2 w (PT g).length (PT g)
theorem due_rows {w : Nat} {sg : List Int} (hw : 4 ≤ w) (h : ∀ k ∈ sg, 0 ≤ k ∧ k < 25) : (dueRun (w : Int) (sg ++ [24])).1 = (rowsR w sg).map mk := by
  unfold dueRun rowsR
  rw [due_spl, List.nil_append, List.map_flatMap]
  have key : ∀ l : List (List Int), (∀ g ∈ l, Low g) → l.flatMap (rowsS (w : Int)) = l.flatMap fun g => (cut2 w (PT g).length (PT g)).map mk := by
    intro l
    induction l with
    | nil => intro _; rfl
    | cons g l ih =>
      intro hl
      rw [List.flatMap_cons, List.flatMap_cons, ih fun z hz => hl z (.tail _ hz), rows_eq hw (hl g (.head _)) (Nat.le_refl _)]
  exact key _ (splK_low [] h fun _ z => nomatch z)
theorem lb_ok : ∀ c : Fin 69, ((48 ≤ c.val ∧ c.val ≤ 57) ∨ c.val = 61 ∨ c.val = 68 ∨ c.val = 40 ∨ c.val = 32 ∨ c.val = 9) → (Unicode.isLineBreak c.val = true ↔ c.val = 10) ∧ c.val ≠ 13 := by decide +kernel
theorem lb10 : Unicode.isLineBreak 10 = true := by decide +kernel
theorem alf_lt {c : Nat} (h : (48 ≤ c ∧ c ≤ 57) ∨ c = 61 ∨ c = 68 ∨ c = 40 ∨ c = 32 ∨ c = 9) : c < 69 := by
  rcases h with h | rfl | rfl | rfl | rfl | rfl
  · exact Nat.lt_of_le_of_lt h.2 (by decide)
  all_goals decide
theorem enc_lb {sg : List Int} (h : ∀ k ∈ sg, 0 ≤ k ∧ k < 25) : ∀ c ∈ sg.flatMap encK, (Unicode.isLineBreak c = true ↔ c = 10) ∧ c ≠ 13 := by
  intro c hc
  obtain ⟨k, hk, hc⟩ := List.mem_flatMap.mp hc
  unfold encK at hc
  by_cases e : k = 24
  · rw [if_pos e] at hc
    have : c = 10 := List.mem_singleton.mp hc
    subst this
    exact ⟨⟨fun _ => rfl, fun _ => lb10⟩, by decide⟩
  · rw [if_neg e] at hc
    have hk := h k hk
    have h1 := pce_alf (k := k) ⟨hk.1, by omega⟩ c hc
    exact lb_ok ⟨c, alf_lt h1⟩ h1
theorem be_rows {w : Nat} {e : List Nat} {sg : List Int} (hne : sg ≠ []) (h : ∀ k ∈ sg, 0 ≤ k ∧ k < 25) : beF (sg.flatMap fun k => sgn k.toNat) (w : Int) e = joinL e (rowsR w sg) := by
  have hT := enc_lb h
  have hlin := lines_eq (sg.flatMap encK) hT
  unfold beF rowsB
  rw [enc_all h, hlin, Int.toNat_natCast]
  have hg : cutF w e 0 [] = [[]] := by
    show [finR1 w e []] = [[]]
    unfold finR1
    rw [if_neg (by simp)]
  have e1 : ((linF [] (sg.flatMap encK)).map mk).flatMap (lineC w e) = (linF [] (sg.flatMap encK)).flatMap fun l => cutF w e l.length l := by
    rw [List.flatMap_map]
    rfl
  have hlast : lastNL (sg.flatMap encK) = true ↔ ((sg.flatMap encK = [] ∧ ([] : List Nat) = []) ∨ (sg.flatMap encK).getLast? = some 10) := by
    unfold lastNL
    rw [Bool.or_eq_true, beq_iff_eq, beq_iff_eq]
    constructor
    · rintro (q | q)
      · exact absurd rfl (hT 13 (List.mem_of_getLast? q)).2
      · exact .inr q
    · rintro (⟨q, _⟩ | q)
      · exfalso
        cases sg with
        | nil => exact hne rfl
        | cons k r =>
          rw [List.flatMap_cons, List.append_eq_nil_iff] at q
          have hk := h k (.head _)
          have q1 := q.1
          unfold encK at q1
          by_cases e : k = 24
          · rw [if_pos e] at q1; cases q1
          · rw [if_neg e] at q1
            rcases pce_form (k := k) ⟨hk.1, by omega⟩ with ⟨c, e2, _⟩ | ⟨x, y, e2, _⟩ <;> rw [e2] at q1 <;> cases q1
      · exact .inr q
  have e2 : (if lastNL (sg.flatMap encK) = true then [[]] else ([] : List (List Nat))) = if (sg.flatMap encK = [] ∧ ([] : List Nat) = []) ∨ (sg.flatMap encK).getLast? = some 10 then [[]] else [] := by
    by_cases q : lastNL (sg.flatMap encK) = true
    · rw [if_pos q, if_pos (hlast.mp q)]
    · rw [if_neg q, if_neg (fun z => q (hlast.mpr z))]
  have e3 := lin_spl (g := fun l => cutF w e l.length l) hg (sg.flatMap encK) []
  have e4 : splF [] (sg.flatMap encK) = (splK [] sg).map PT := spl_map [] h
  rw [e1, e2]
  refine (congrArg (joinL e) e3).trans ?_
  rw [e4, List.flatMap_map]
  exact (same_flat (splK [] sg) (splK_ne _ _) fun g _ => cut_same (w := w) (e := e) (PT g).length (PT g)).2.2
end
section
noncomputable def pos (c : Nat) : Nat → List Nat → List Int
  | _, [] => []
  | i, d :: r => if d = c then (i : Int) :: pos c (i + 1) r else pos c (i + 1) r
theorem pos_app (c : Nat) : ∀ (l r : List Nat) (i : Nat), pos c i (l ++ r) = pos c i l ++ pos c (i + l.length) r
  | [], r, i => rfl
  | d :: l, r, i => by
    rw [List.cons_append, pos, pos, pos_app c l r (i + 1), List.length_cons, show i + 1 + l.length = i + (l.length + 1) by omega]
    split <;> simp
theorem pos_free {c : Nat} : ∀ {l : List Nat} {i : Nat}, c ∉ l → pos c i l = []
  | [], _, _ => rfl
  | d :: l, i, h => by
    rw [pos, if_neg (fun q => h (by rw [q]; exact .head _)), pos_free fun q => h (.tail _ q)]
theorem pos_mem {c : Nat} : ∀ {l : List Nat} {i : Nat} {v : Int}, v ∈ pos c i l → ∃ j : Nat, v = ((i + j : Nat) : Int) ∧ l[j]? = some c
  | [], _, _, h => by simp [pos] at h
  | d :: l, i, v, h => by
    rw [pos] at h
    have next : v ∈ pos c (i + 1) l → ∃ j : Nat, v = ((i + j : Nat) : Int) ∧ (d :: l)[j]? = some c := fun q => by
      obtain ⟨j, e, g⟩ := pos_mem q
      exact ⟨j + 1, by rw [e]; congr 1; omega, by simpa using g⟩
    by_cases e : d = c
    · rw [if_pos e] at h
      rcases List.mem_cons.mp h with q | q
      · exact ⟨0, by simpa using q, by simp [e]⟩
      · exact next q
    · rw [if_neg e] at h
      exact next h
theorem item_mk {L : List Nat} {k : Nat} (h : k < L.length) : Txt.item (mk L) (k : Int) = mk [L[k]] := by
  obtain ⟨c, h1, h2⟩ := item_at (y := mk L) (a := k) (by rw [mk_len]; exact h)
  have e : (mk L).cps.toList = L := by simp [mk]
  rw [e, List.getElem?_eq_getElem h] at h1
  rw [h2, Option.some.inj h1]
theorem mk_inj {a b : List Nat} (h : mk a = mk b) : a = b := by
  have : (mk a == mk b) = true := by rw [h]; exact beq_self_eq_true _
  rw [mk_eq] at this
  exact of_decide_eq_true this
theorem plc_eq {c : Nat} {t : List Nat} : plcS (mk (c :: t)) = pos c 0 (c :: t) := by
  have key : ∀ (m i : Nat) (acc : List Int), i + m = (c :: t).length →
      List.foldl (fun l' k' => if (1 ≤ (Txt.item (mk (c :: t)) k').length ∧ (Txt.item (mk (c :: t)) k').length ≤ 1) ∧ (1 ≤ (Txt.item (mk (c :: t)) 0).length ∧ (Txt.item (mk (c :: t)) 0).length ≤ 1) ∧ Txt.item (mk (c :: t)) k' = Txt.item (mk (c :: t)) 0 then l' ++ [k'] else if (1 ≤ (Txt.item (mk (c :: t)) k').length ∧ (Txt.item (mk (c :: t)) k').length ≤ 1) ∧ (1 ≤ (Txt.item (mk (c :: t)) 0).length ∧ (Txt.item (mk (c :: t)) 0).length ≤ 1) ∧ ¬Txt.item (mk (c :: t)) k' = Txt.item (mk (c :: t)) 0 then l' else l') acc (rangeKs (i : Int) m) = acc ++ pos c i ((c :: t).drop i) := by
    intro m
    induction m with
    | zero =>
      intro i acc h
      rw [List.drop_of_length_le (by omega)]
      simp [rangeKs, pos]
    | succ m ih =>
      intro i acc h
      have hlt : i < (c :: t).length := by omega
      have h0 : Txt.item (mk (c :: t)) 0 = mk [c] := item_mk (L := c :: t) (k := 0) (by simp)
      have hi := item_mk hlt
      rw [kll_cons, List.foldl_cons, hi, h0]
      have e1 : (mk [c]).length = 1 := by rw [mk_len]; rfl
      have e2 : (mk [(c :: t)[i]]).length = 1 := by rw [mk_len]; rfl
      have hd : (c :: t).drop i = (c :: t)[i] :: (c :: t).drop (i + 1) := List.drop_eq_getElem_cons hlt
      rw [hd, pos]
      have ih' := ih (i + 1) 
      rw [h0] at ih'
      have ei : ((i + 1 : Nat) : Int) = (i : Int) + 1 := by omega
      by_cases q : (c :: t)[i] = c
      · rw [if_pos ⟨⟨by omega, by omega⟩, ⟨by omega, by omega⟩, by rw [q]⟩, if_pos q, ← ei, ih' (acc ++ [(i : Int)]) (by omega), List.append_assoc]
        rfl
      · have q' : ¬ mk [(c :: t)[i]] = mk [c] := fun z => q (by simpa using mk_inj z)
        rw [if_neg (fun z => q' z.2.2), if_neg q, ← ei]
        split
        · exact ih' acc (by omega)
        · exact ih' acc (by omega)
  have := key (c :: t).length 0 [] (by omega)
  rw [List.drop_zero, List.nil_append] at this
  unfold plcS
  rw [show (((mk (c :: t)).length : Int) - 0).toNat = (c :: t).length by rw [mk_len]; omega]
  exact this
theorem plc_nil : plcS (mk []) = [] := by
  unfold plcS
  rw [mk_len]
  rfl
noncomputable def spC (c : Nat) : List Nat → List Nat → List (List Nat)
  | pre, [] => [pre]
  | pre, d :: r => if d = c then pre :: spC c [] r else spC c (pre ++ [d]) r
theorem spC_app {c : Nat} : ∀ (l r pre : List Nat), c ∉ l → spC c pre (l ++ r) = spC c (pre ++ l) r
  | [], r, pre, _ => by simp
  | d :: l, r, pre, h => by
    rw [List.cons_append, spC, if_neg (by intro q; exact h (by rw [q]; exact .head _)), spC_app l r _ (fun q => h (.tail _ q))]
    simp
theorem spC_join {c : Nat} : ∀ parts : List (List Nat), parts ≠ [] → (∀ p ∈ parts, c ∉ p) → spC c [] (joinL [c] parts) = parts
  | [], h, _ => absurd rfl h
  | [x], _, h => by
    show spC c [] x = [x]
    have := spC_app x [] [] (h x (.head _))
    rw [List.append_nil] at this
    rw [this]
    rfl
  | x :: y :: r, _, h => by
    show spC c [] (x ++ [c] ++ joinL [c] (y :: r)) = _
    rw [List.append_assoc, spC_app x _ [] (h x (.head _))]
    show spC c x (c :: joinL [c] (y :: r)) = _
    rw [spC, if_pos rfl, spC_join (y :: r) (by simp) fun p hp => h p (.tail _ hp)]
theorem spC_free {c : Nat} : ∀ (u pre : List Nat), c ∉ pre → ∀ p ∈ spC c pre u, c ∉ p
  | [], pre, h, p, hp => by rw [spC] at hp; rw [List.mem_singleton.mp hp]; exact h
  | d :: r, pre, h, p, hp => by
    rw [spC] at hp
    by_cases e : d = c
    · rw [if_pos e] at hp
      rcases List.mem_cons.mp hp with q | q
      · rw [q]; exact h
      · exact spC_free r [] (fun z => nomatch z) p q
    · rw [if_neg e] at hp
      refine spC_free r (pre ++ [d]) (fun z => ?_) p hp
      rcases List.mem_append.mp z with q | q
      · exact h q
      · exact e (List.mem_singleton.mp q).symm
theorem spC_ne {c : Nat} : ∀ (u pre : List Nat), spC c pre u ≠ []
  | [], pre => by simp [spC]
  | d :: r, pre => by
    rw [spC]
    split
    · simp
    · exact spC_ne r _
theorem join_spC {c : Nat} : ∀ (u pre : List Nat), joinL [c] (spC c pre u) = pre ++ u
  | [], pre => by simp [spC, joinL]
  | d :: r, pre => by
    rw [spC]
    by_cases e : d = c
    · rw [if_pos e]
      have := joinL_app [c] [pre] (spC c [] r) (by simp) (spC_ne r [])
      rw [List.singleton_append] at this
      rw [this, join_spC r [], e]
      show pre ++ [c] ++ ([] ++ r) = _
      simp
    · rw [if_neg e, join_spC r _, List.append_assoc]
      rfl
theorem spC_len {c : Nat} : ∀ (u pre : List Nat) (i : Nat), (spC c pre u).length = (pos c i u).length + 1
  | [], pre, i => rfl
  | d :: r, pre, i => by
    rw [spC, pos]
    by_cases e : d = c
    · rw [if_pos e, if_pos e, List.length_cons, List.length_cons, spC_len r [] (i + 1)]
    · rw [if_neg e, if_neg e, spC_len r (pre ++ [d]) (i + 1)]
theorem split_eq {u : List Nat} (c : Nat) (hu : u ≠ []) : Txt.split (mk u) (mk [c]) = (spC c [] u).map mk := by
  have h1 := PySem.StrLaws.join_split (mk u) (mk [c])
  have h2 := PySem.StrLaws.split_free (mk u) c
  have hm : (⟨#[c]⟩ : Str) = mk [c] := rfl
  rw [hm] at h2
  generalize Txt.split (mk u) (mk [c]) = P at h1 h2
  have hP : P = (P.map fun p => p.cps.toList).map mk := by
    rw [List.map_map]
    conv => lhs; rw [← List.map_id P]
    apply List.map_congr_left
    intro p _
    exact (mk_self p).symm
  rw [hP, joinS_mk] at h1
  have h3 := mk_inj h1
  rw [hP, ← h3, spC_join]
  · intro q
    rw [q] at h3
    exact hu h3.symm
  · intro p hp
    obtain ⟨z, hz, rfl⟩ := List.mem_map.mp hp
    exact h2 z hz
end
section
noncomputable def Alf (c : Nat) : Prop := (48 ≤ c ∧ c ≤ 57) ∨ c = 61 ∨ c = 68 ∨ c = 40 ∨ c = 32 ∨ c = 9
theorem alf_bl' : ∀ c : Fin 69, ((48 ≤ c.val ∧ c.val ≤ 57) ∨ c.val = 61 ∨ c.val = 68 ∨ c.val = 40 ∨ c.val = 32 ∨ c.val = 9) → Unicode.isSpace c.val = NumText.blank c.val := by decide +kernel
theorem alf_bl {c : Nat} (h : Alf c) : Unicode.isSpace c = NumText.blank c := by
  have : c < 69 := by unfold Alf at h; omega
  exact alf_bl' ⟨c, this⟩ h
theorem dropW_congr {p q : Nat → Bool} : ∀ {l : List Nat}, (∀ x ∈ l, p x = q x) → l.dropWhile p = l.dropWhile q
  | [], _ => rfl
  | x :: l, h => by
    rw [List.dropWhile_cons, List.dropWhile_cons, h x (.head _), dropW_congr fun z hz => h z (.tail _ hz)]
theorem dropW_drop {p : Nat → Bool} : ∀ l : List Nat, l.dropWhile p = l.drop (l.takeWhile p).length
  | [] => rfl
  | x :: l => by
    rw [List.dropWhile_cons, List.takeWhile_cons]
    cases h : p x
    · rfl
    · simp [dropW_drop l]
theorem dropW_mem {p : Nat → Bool} {l : List Nat} {x : Nat} (h : x ∈ l.dropWhile p) : x ∈ l := by rw [dropW_drop] at h; exact List.mem_of_mem_drop h
noncomputable def stripL (d : List Nat) : List Nat := ((d.dropWhile NumText.blank).reverse.dropWhile NumText.blank).reverse
theorem stripL_mem {d : List Nat} {x : Nat} (h : x ∈ stripL d) : x ∈ d := by
  unfold stripL at h
  rw [List.mem_reverse] at h
  exact dropW_mem (List.mem_reverse.mp (dropW_mem h))
theorem stripL_len (d : List Nat) : (stripL d).length ≤ d.length := by
  unfold stripL
  rw [List.length_reverse, dropW_drop, List.length_drop, List.length_reverse, dropW_drop, List.length_drop]
  omega
theorem strip_eq {d : List Nat} (h : ∀ c ∈ d, Alf c) : Txt.strip (mk d) = mk (stripL d) := by
  have e : stripL d = ((d.dropWhile Unicode.isSpace).reverse.dropWhile Unicode.isSpace).reverse := by
    unfold stripL
    have h1 : d.dropWhile NumText.blank = d.dropWhile Unicode.isSpace := dropW_congr fun x hx => (alf_bl (h x hx)).symm
    rw [h1]
    congr 1
    exact dropW_congr fun x hx => (alf_bl (h x (dropW_mem (List.mem_reverse.mp hx)))).symm
  unfold Txt.strip
  rw [PySem.W.stripBy_eq, e]
  have hd : (mk d).cps.toList = d := by simp [mk]
  unfold PySem.W.stripped
  simp only [if_true, hd]
  rw [← mk_self (Builtin.Str.strSub _ _ _)]
  congr 1
  rw [PySem.StrLaws.strSub_toList, hd, ← dropW_drop, mk_len]
  generalize hy : d.dropWhile Unicode.isSpace = y
  have hyl : y.length = d.length - (d.takeWhile Unicode.isSpace).length := by rw [← hy, dropW_drop, List.length_drop]
  rw [dropW_drop y.reverse, List.drop_reverse, List.reverse_reverse]
  congr 1
  omega
theorem seen_eq {d : List Nat} (h : ∀ c ∈ d, Alf c) : numTextOf (mk d) = d ∧ numSeenOf (mk d) = d := by
  have hd : (mk d).cps.toList = d := by simp [mk]
  have h1 : (mk d).cps.all (· < 128) = true := by
    rw [Array.all_eq_true_iff_forall_mem]
    intro c hc
    have hc' : c ∈ d := by rw [← hd]; exact Array.mem_toList_iff.mpr hc
    have := h c hc'
    unfold Alf at this
    simp
    omega
  have e : numTextOf (mk d) = d := by
    unfold numTextOf
    rw [if_pos h1, hd]
  refine ⟨e, ?_⟩
  unfold numSeenOf
  rw [e]
  have : ∀ l : List Nat, (∀ c ∈ l, Alf c) → l.takeWhile (· != 0) = l := by
    intro l
    induction l with
    | nil => intro _; rfl
    | cons c l ih =>
      intro hl
      have hc := hl c (.head _)
      have : (c != 0) = true := by unfold Alf at hc; simp; omega
      rw [List.takeWhile_cons, this, if_pos rfl, ih fun z hz => hl z (.tail _ hz)]
  exact this d h
theorem sign_no {t : List Nat} (h : ∀ c ∈ t, Alf c) : NumText.sign t = (false, t) := by
  unfold NumText.sign
  split
  · have := h 45 (.head _); unfold Alf at this; omega
  · have := h 43 (.head _); unfold Alf at this; omega
  · rfl
noncomputable def isFig (c : Nat) : Bool := decide (48 ≤ c ∧ c ≤ 57)
theorem step_fig {p : Array Nat × Bool} {c : Nat} (h : isFig c = true) : NumText.step 10 p c = some (p.1.push (c - 48), true) := by
  have h' : 48 ≤ c ∧ c ≤ 57 := of_decide_eq_true h
  unfold NumText.step NumText.digit?
  have e1 : (c == 95) = false := by simp; omega
  have e2 : (decide (48 ≤ c) && decide (c ≤ 57)) = true := by simp; exact h'
  rw [e1, e2]
  simp only [Bool.false_eq_true, if_false, if_true]
  rw [if_pos (by omega)]
theorem step_nofig {p : Array Nat × Bool} {c : Nat} (h : Alf c) (hn : isFig c = false) : NumText.step 10 p c = none := by
  have h' : ¬ (48 ≤ c ∧ c ≤ 57) := of_decide_eq_false hn
  unfold Alf at h
  have : c = 61 ∨ c = 68 ∨ c = 40 ∨ c = 32 ∨ c = 9 := by omega
  rcases this with rfl | rfl | rfl | rfl | rfl <;> rfl
theorem fold_figs : ∀ (s : List Nat) (a : Array Nat) (b : Bool), (∀ c ∈ s, isFig c = true) → s.foldlM (NumText.step 10) (a, b) = some ((a.toList ++ s.map (· - 48)).toArray, b || !s.isEmpty)
  | [], a, b, _ => by simp
  | c :: s, a, b, h => by
    rw [List.foldlM_cons, step_fig (h c (.head _))]
    show s.foldlM (NumText.step 10) (a.push (c - 48), true) = _
    rw [fold_figs s _ _ fun z hz => h z (.tail _ hz)]
    simp
theorem fold_bad : ∀ (s : List Nat) (p : Array Nat × Bool), (∀ c ∈ s, Alf c) → (∃ c ∈ s, isFig c = false) → s.foldlM (NumText.step 10) p = none
  | [], p, _, ⟨c, hc, _⟩ => nomatch hc
  | c :: s, p, h, ⟨z, hz, hb⟩ => by
    rw [List.foldlM_cons]
    by_cases hc : isFig c = true
    · rw [step_fig hc]
      refine fold_bad s _ (fun z hz => h z (.tail _ hz)) ?_
      rcases List.mem_cons.mp hz with q | q
      · rw [q, hc] at hb; cases hb
      · exact ⟨z, q, hb⟩
    · rw [step_nofig (h c (.head _)) (by simpa using hc)]
      rfl
theorem worth_val : ∀ (s : List Nat) (a : Nat), (∀ c ∈ s, isFig c = true) → (((s.map (· - 48)).foldl (fun acc d => acc * 10 + d) a : Nat) : Int) = (s.map fun (c : Nat) => (c : Int)).foldl (fun a c => a * 10 + c - 48) (a : Int)
  | [], a, _ => rfl
  | c :: s, a, h => by
    have hc : 48 ≤ c ∧ c ≤ 57 := of_decide_eq_true (h c (.head _))
    rw [List.map_cons, List.map_cons, List.foldl_cons, List.foldl_cons, worth_val s _ fun z hz => h z (.tail _ hz)]
    congr 1
    omega
theorem figs_list : (Str.ofString "0123456789").cps.toList = [48, 49, 50, 51, 52, 53, 54, 55, 56, 57] := by decide +kernel
theorem fig_found (c : Nat) : (!(Builtin.Str.occurrences (Str.ofString "0123456789") (mk [c]) 0 (Str.ofString "0123456789").length 1).isEmpty) = isFig c := by
  have := PySem.StrLaws.found_one (Str.ofString "0123456789") c
  rw [figs_list] at this
  refine Eq.trans this ?_
  unfold isFig
  congr 1
  simp only [List.mem_cons, List.not_mem_nil, or_false, eq_iff_iff]
  omega
theorem bad_eq (s : List Nat) : badS (mk s) = [] ↔ ∀ c ∈ s, isFig c = true := by
  unfold badS signs
  have hd : (mk s).cps.toList = s := by simp [mk]
  rw [hd, List.filter_eq_nil_iff]
  constructor
  · intro h c hc
    have := h (mk [c]) (List.mem_map.mpr ⟨c, hc, rfl⟩)
    have e := fig_found c
    cases q : isFig c with
    | true => rfl
    | false =>
      rw [q] at e
      exact absurd (by rw [Bool.not_eq_false'] at e; rw [e]; rfl) this
  · rintro h y hy
    obtain ⟨c, hc, rfl⟩ := List.mem_map.mp hy
    have e := fig_found c
    rw [h c hc, Bool.not_eq_true'] at e
    show ¬ (!!(Builtin.Str.occurrences (Str.ofString "0123456789") (mk [c]) 0 (Str.ofString "0123456789").length 1).isEmpty) = true
    rw [e]
    decide
theorem int_eq {d : List Nat} (h : ∀ c ∈ d, Alf c) (hl : d.length ≤ 640) :
    PySem.intText? (mk d) = if stripL d ≠ [] ∧ ∀ c ∈ stripL d, isFig c = true then some (valF ((stripL d).map fun (c : Nat) => (c : Int))) else none := by
  obtain ⟨e1, e2⟩ := seen_eq h
  have hs : ∀ c ∈ stripL d, Alf c := fun c hc => h c (stripL_mem hc)
  have e3 : NumText.sign (d.dropWhile NumText.blank) = (false, d.dropWhile NumText.blank) := sign_no fun c hc => h c (dropW_mem hc)
  have e4 : NumText.core d = stripL d := by
    unfold NumText.core stripL
    rw [e3]
  have hsl := stripL_len d
  unfold PySem.intText?
  rw [e1, e2, e4, e3]
  simp only [beq_self_eq_true, if_true]
  unfold NumText.digits?
  by_cases hg : ∀ c ∈ stripL d, isFig c = true
  · rw [fold_figs _ _ _ hg]
    by_cases hn : stripL d = []
    · rw [if_neg (fun q => q.1 hn), hn]
      rfl
    · rw [if_pos ⟨hn, hg⟩]
      have hb : (false || !(stripL d).isEmpty) = true := by
        cases q : stripL d with
        | nil => exact absurd q hn
        | cons _ _ => rfl
      simp only [Option.bind_some, hb, if_true]
      have hz : (#[].toList ++ (stripL d).map (· - 48)).toArray.size ≤ 4300 := by simp; omega
      rw [if_pos hz]
      unfold NumText.worth valF
      have := worth_val (stripL d) 0 hg
      simp only [Bool.false_eq_true, if_false, Array.toList_empty, List.nil_append, List.foldl_toArray]
      exact congrArg some this
  · rw [if_neg (fun q => hg q.2), fold_bad _ _ hs]
    · rfl
    · refine Classical.byContradiction fun q => hg fun c hc => ?_
      cases z : isFig c with
      | true => rfl
      | false => exact absurd ⟨c, hc, z⟩ q
end
section
theorem getD_mk (L : List Nat) (v : Nat) : (mk L).cps.getD v 0 = L.getD v 0 := by
  simp only [mk, Array.getD_eq_getD_getElem?, List.getD_eq_getElem?_getD, List.getElem?_toArray]
theorem from_nat (n i : Nat) : fromIndex n (i : Int) = i := by
  unfold fromIndex
  rw [if_neg (by omega)]
  omega
theorem at_drop {L A B : List Nat} {c i : Nat} (h : L.drop i = A ++ c :: B) : ∀ v, v < A.length + 1 → L.getD (i + v) 0 = (A ++ [c]).getD v 0 := by
  intro v hv
  have e : L.getD (i + v) 0 = (L.drop i).getD v 0 := by
    rw [List.getD_eq_getElem?_getD, List.getD_eq_getElem?_getD, List.getElem?_drop]
  rw [e, h, show A ++ c :: B = (A ++ [c]) ++ B by simp, List.getD_eq_getElem?_getD, List.getD_eq_getElem?_getD, List.getElem?_append_left (by simp; omega)]
theorem find3_at {L A B : List Nat} {c i : Nat} (h : L.drop i = A ++ c :: B) (hA : c ∉ A) : Txt.find3 (mk L) ⟨#[c]⟩ (i : Int) = ((i + A.length : Nat) : Int) := by
  have hl : i + A.length < L.length := by
    have := congrArg List.length h
    rw [List.length_drop, List.length_append, List.length_cons] at this
    omega
  have hin : ∀ v, v < A.length → L.getD (i + v) 0 ≠ c := fun v hv q => by
    rw [at_drop h v (by omega), List.getD_eq_getElem?_getD, List.getElem?_append_left hv, List.getElem?_eq_getElem hv] at q
    exact hA (by rw [← q]; exact List.getElem_mem hv)
  have hat : L.getD (i + A.length) 0 = c := by
    rw [at_drop h A.length (by omega)]
    simp
  rcases PySem.StrLaws.find3_spec (mk L) c (i : Int) with ⟨_, hn⟩ | ⟨k, e, h1, h2, h3, h4⟩
  · rw [from_nat] at hn
    exact absurd (by rw [getD_mk]; exact hat) (hn (i + A.length) (by omega) (by rw [mk_len]; exact hl))
  · rw [from_nat] at h1 h4
    rw [getD_mk] at h3
    rw [e]
    congr 1
    by_cases q1 : k < i + A.length
    · exact absurd (by rw [show i + (k - i) = k by omega]; exact h3) (hin (k - i) (by omega))
    · by_cases q2 : i + A.length < k
      · exact absurd (by rw [getD_mk]; exact hat) (h4 (i + A.length) (by omega) q2)
      · omega
theorem find3_no {L : List Nat} {c i : Nat} (h : c ∉ L.drop i) : Txt.find3 (mk L) ⟨#[c]⟩ (i : Int) = -1 := by
  rcases PySem.StrLaws.find3_spec (mk L) c (i : Int) with ⟨e, _⟩ | ⟨k, e, h1, h2, h3, _⟩
  · exact e
  · rw [from_nat] at h1
    rw [getD_mk] at h3
    rw [mk_len] at h2
    rw [List.getD_eq_getElem?_getD, List.getElem?_eq_getElem h2, Option.getD_some] at h3
    refine absurd ?_ h
    rw [← h3]
    exact List.mem_iff_getElem.mpr ⟨k - i, by rw [List.length_drop]; omega, by rw [List.getElem_drop]; congr 1; omega⟩
theorem find_0 (x y : Str) : Txt.find x y = Txt.find3 x y ((0 : Nat) : Int) := by
  unfold Txt.find Txt.find3
  rw [from_nat]
  cases Builtin.Str.occurrences x y 0 x.length 1 <;> rfl
theorem par40 : Str.ofString "(" = ⟨#[40]⟩ := by decide +kernel
theorem hasPar_eq (r : List Nat) : hasPar (mk r) = decide (40 ∈ r) := by
  unfold hasPar
  rw [par40]
  have := PySem.StrLaws.found_one (mk r) 40
  have hd : (mk r).cps.toList = r := by simp [mk]
  rw [hd] at this
  exact this
theorem mem_joinL {E : List Nat} {c : Nat} : ∀ {R : List (List Nat)}, c ∈ joinL E R → c ∈ E ∨ ∃ r ∈ R, c ∈ r
  | [], h => nomatch h
  | [x], h => .inr ⟨x, .head _, h⟩
  | x :: y :: R, h => by
    have h : c ∈ x ++ E ++ joinL E (y :: R) := h
    rcases List.mem_append.mp h with q | q
    · rcases List.mem_append.mp q with q | q
      · exact .inr ⟨x, .head _, q⟩
      · exact .inl q
    · rcases mem_joinL q with q | ⟨r, hr, q⟩
      · exact .inl q
      · exact .inr ⟨r, .tail _ hr, q⟩
theorem joinL_has {E r : List Nat} : ∀ {R : List (List Nat)}, r ∈ R → (∀ c ∈ r, c ∈ joinL E R) ∧ r.length ≤ (joinL E R).length
  | [], h => nomatch h
  | [x], h => by rw [List.mem_singleton.mp h]; exact ⟨fun _ z => z, Nat.le_refl _⟩
  | x :: y :: R, h => by
    have e : joinL E (x :: y :: R) = x ++ E ++ joinL E (y :: R) := rfl
    rw [e]
    rcases List.mem_cons.mp h with q | q
    · subst q
      exact ⟨fun c hc => List.mem_append.mpr (.inl (List.mem_append.mpr (.inl hc))), by simp only [List.length_append]; omega⟩
    · obtain ⟨h1, h2⟩ := joinL_has (E := E) q
      exact ⟨fun c hc => List.mem_append.mpr (.inr (h1 c hc)), by simp only [List.length_append]; omega⟩
theorem joinL_pre (E : List Nat) (pre S : List (List Nat)) (hS : S ≠ []) : ∃ A, joinL E (pre ++ S) = A ++ joinL E S ∧ ∀ c ∈ A, c ∈ E ∨ ∃ r ∈ pre, c ∈ r := by
  by_cases h : pre = []
  · exact ⟨[], by rw [h]; rfl, fun c hc => nomatch hc⟩
  · refine ⟨joinL E pre ++ E, joinL_app E pre S h hS, fun c hc => ?_⟩
    rcases List.mem_append.mp hc with q | q
    · exact mem_joinL q
    · exact .inl q
noncomputable def portH : Option Int → Heard
  | some n => .peer n
  | none => .value
theorem core_eq {c : Nat} {t : List Nat} (ha : ∀ d ∈ c :: t, Alf d) (hl : (c :: t).length ≤ 640) {z : Nat} (hz : (c :: t).getLast? = some z) :
    (if (mk [c] != mk [z]) = true then Heard.proto else if (((Txt.split (mk (c :: t)) (mk [c])).length : Nat) : Int) = 5 then portH (PySem.intText? ((Txt.split (mk (c :: t)) (mk [c])).getD 3 default)) else Heard.proto) = readS (mk (c :: t)) := by
  have hsplit := split_eq (u := c :: t) c (by simp)
  have hplc := plc_eq (c := c) (t := t)
  have hlen := spC_len (c := c) (c :: t) [] 0
  have hsl : (Txt.split (mk (c :: t)) (mk [c])).length = (pos c 0 (c :: t)).length + 1 := by rw [hsplit, List.length_map, hlen]
  by_cases hcz : z = c
  · subst hcz
    rw [if_neg (by rw [bne_self_eq_false]; exact Bool.false_ne_true)]
    by_cases h5 : (((Txt.split (mk (z :: t)) (mk [z])).length : Nat) : Int) = 5
    · rw [if_pos h5]
      have hp4 : (pos z 0 (z :: t)).length = 4 := by omega
      have hs1 : spC z [] (z :: t) = [] :: spC z [] t := by rw [spC, if_pos rfl]
      obtain ⟨a, b, d, f, hs⟩ : ∃ a b d f, spC z [] t = [a, b, d, f] := by
        have h4 : (spC z [] t).length = 4 := by
          rw [hs1, List.length_cons, hp4] at hlen
          omega
        match hq : spC z [] t with
        | [a, b, d, f] => exact ⟨a, b, d, f, rfl⟩
        | [] => rw [hq] at h4; simp at h4
        | [_] => rw [hq] at h4; simp at h4
        | [_, _] => rw [hq] at h4; simp at h4
        | [_, _, _] => rw [hq] at h4; simp at h4
        | _ :: _ :: _ :: _ :: _ :: _ => rw [hq] at h4; simp at h4
      have hfree := spC_free (c := z) t [] (fun q => nomatch q)
      rw [hs] at hfree
      have fa : z ∉ a := hfree a (by simp)
      have fb : z ∉ b := hfree b (by simp)
      have fd : z ∉ d := hfree d (by simp)
      have ff : z ∉ f := hfree f (by simp)
      have ht := join_spC (c := z) t []
      rw [hs, List.nil_append] at ht
      have ht' : t = a ++ z :: (b ++ z :: (d ++ z :: f)) := by
        rw [← ht]
        simp [joinL]
      have hf0 : f = [] := by
        rcases List.eq_nil_or_concat f with q | ⟨g, y, q⟩
        · exact q
        · exfalso
          have e : z :: t = (z :: (a ++ z :: (b ++ z :: (d ++ z :: g)))) ++ [y] := by rw [ht', q]; simp
          rw [e, List.getLast?_append, List.getLast?_singleton, Option.some_or] at hz
          have : z = y := (Option.some.inj hz).symm
          exact ff (by rw [q, this]; simp)
      subst hf0
      have hpos : pos z 0 (z :: t) = [0, ((1 + a.length : Nat) : Int), ((2 + a.length + b.length : Nat) : Int), ((3 + a.length + b.length + d.length : Nat) : Int)] := by
        rw [pos, if_pos rfl, ht', pos_app, pos_free fa, List.nil_append, pos, if_pos rfl, pos_app, pos_free fb, List.nil_append, pos, if_pos rfl, pos_app, pos_free fd, List.nil_append, pos, if_pos rfl, pos]
        have e1 : 0 + 1 + a.length = 1 + a.length := by omega
        have e2 : 0 + 1 + a.length + 1 + b.length = 2 + a.length + b.length := by omega
        have e3 : 0 + 1 + a.length + 1 + b.length + 1 + d.length = 3 + a.length + b.length + d.length := by omega
        rw [e3, e2, e1]
        rfl
      have hul : (z :: t).length = 4 + a.length + b.length + d.length := by
        rw [ht']
        simp only [List.length_cons, List.length_append, List.length_nil]
        omega
      have hfig : figS (mk (z :: t)) = Txt.strip (mk d) := by
        unfold figS
        rw [hplc, hpos]
        show Txt.strip (Txt.slice _ (some (((2 + a.length + b.length : Nat) : Int) + 1)) (some ((3 + a.length + b.length + d.length : Nat) : Int))) = _
        rw [show ((2 + a.length + b.length : Nat) : Int) + 1 = ((3 + a.length + b.length : Nat) : Int) by omega, slice_mk (by omega) (by rw [mk_len]; omega)]
        congr 2
        have hd : (mk (z :: t)).cps.toList = z :: t := by simp [mk]
        rw [hd, ht', show 3 + a.length + b.length + d.length - (3 + a.length + b.length) = d.length by omega]
        have e : z :: (a ++ z :: (b ++ z :: (d ++ [z]))) = (z :: (a ++ z :: (b ++ [z]))) ++ (d ++ [z]) := by simp
        rw [e, show 3 + a.length + b.length = (z :: (a ++ z :: (b ++ [z]))).length by simp only [List.length_cons, List.length_append, List.length_nil]; omega, List.drop_left, List.take_left]
      have hpart : (Txt.split (mk (z :: t)) (mk [z])).getD 3 default = mk d := by
        rw [hsplit, hs1, hs]
        rfl
      have had : ∀ x ∈ d, Alf x := fun x hx => ha x (by rw [ht']; simp [hx])
      have hdl : d.length ≤ 640 := by omega
      have g4 : ((plcS (mk (z :: t))).length : Int) = 4 := by rw [hplc, hp4]; rfl
      have g3 : (plcS (mk (z :: t))).getD (Int.toNat 3) 0 = ((mk (z :: t)).length : Int) - 1 := by
        rw [hplc, hpos, mk_len, hul]
        show ((3 + a.length + b.length + d.length : Nat) : Int) = _
        omega
      have hst := strip_eq had
      rw [hpart, int_eq had hdl]
      by_cases n0 : stripL d = []
      · exact (congrArg portH (if_neg (fun q => q.1 n0))).trans (rd3 g4 g3 (by rw [hfig, hst, n0, empty_mk]; exact beq_self_eq_true _)).symm
      · have n1 : (figS (mk (z :: t)) == Str.ofString "") = false := by
          rw [hfig, hst, empty_mk, mk_eq]
          exact decide_eq_false n0
        have hb := bad_eq (stripL d)
        by_cases n2 : ∀ x ∈ stripL d, isFig x = true
        · refine (congrArg portH (if_pos ⟨n0, n2⟩)).trans ?_
          rw [rd4 g4 g3 n1 (by rw [hfig, hst]; exact hb.mpr n2), hfig, hst]
          exact congrArg Heard.peer (congrArg valF (by unfold KStt.codes; simp [mk]))
        · exact (congrArg portH (if_neg (fun q => n2 q.2))).trans (rd5 g4 g3 n1 (by rw [hfig, hst]; exact fun q => n2 (hb.mp q))).symm
    · rw [if_neg h5, rd1 (by rw [hplc]; omega)]
  · have hbn : (mk [c] != mk [z]) = true := by
      rw [bne, mk_eq]
      simp
      exact fun q => hcz q.symm
    rw [if_pos hbn]
    by_cases h4 : ((plcS (mk (c :: t))).length : Int) = 4
    · refine (rd2 h4 fun q => ?_).symm
      rw [hplc] at h4 q
      have h4' : (pos c 0 (c :: t)).length = 4 := by omega
      have hmem : (pos c 0 (c :: t)).getD (Int.toNat 3) 0 ∈ pos c 0 (c :: t) := by
        rw [List.getD_eq_getElem?_getD, show Int.toNat 3 = 3 from rfl, List.getElem?_eq_getElem (by omega), Option.getD_some]
        exact List.getElem_mem _
      obtain ⟨j, e, g⟩ := pos_mem hmem
      rw [q, mk_len] at e
      have ej : j = (c :: t).length - 1 := by
        have : (c :: t).length ≠ 0 := by simp
        omega
      rw [ej, ← List.getLast?_eq_getElem?, hz] at g
      exact hcz (Option.some.inj g)
    · exact (rd1 h4).symm
end
section
noncomputable def parseT (x : Str) : Heard :=
  if Txt.find x (Str.ofString "(") < 0 then .proto
  else if Txt.find3 x (Str.ofString ")") (Txt.find x (Str.ofString "(") + 1) < 0 then .proto
  else if (Txt.item x (Txt.find x (Str.ofString "(") + 1) != Txt.item x (Txt.find3 x (Str.ofString ")") (Txt.find x (Str.ofString "(") + 1) - 1)) = true then .proto
  else if (((Txt.split (Txt.slice x (some (Txt.find x (Str.ofString "(") + 1)) (some (Txt.find3 x (Str.ofString ")") (Txt.find x (Str.ofString "(") + 1)))) (Txt.item x (Txt.find x (Str.ofString "(") + 1))).length : Nat) : Int) = 5 then portH (PySem.intText? (part3 x))
  else .proto
theorem parseS_eq (x : Str) : parseS x = if (Txt.slice x none (some 3) != Str.ofString "229") = true then .reply else parseT x := by
  unfold parseS parseT part3
  by_cases h : (Txt.slice x none (some 3) != Str.ofString "229") = true
  · rw [if_pos h, if_pos h]
  · rw [if_neg h, if_neg h]
    split
    · rfl
    · split
      · rfl
      · split
        · rfl
        · split
          · generalize PySem.intText? _ = o
            cases o <;> rfl
          · rfl
noncomputable def P3 (x : Str) : Prop := ¬ Txt.find x (Str.ofString "(") < 0 → ¬ Txt.find3 x (Str.ofString ")") (Txt.find x (Str.ofString "(") + 1) < 0 → (part3 x).length ≤ 640 ∧ (reprText (part3 x)).length ≤ sizeLine
theorem drop_at (A B : List Nat) (c : Nat) : (A ++ c :: B).drop (A.length + 1) = B := by
  rw [show A ++ c :: B = (A ++ [c]) ++ B by simp, show A.length + 1 = (A ++ [c]).length by simp, List.drop_left]
theorem no_par {L : List Nat} (h : 40 ∉ L) : parseT (mk L) = .proto ∧ P3 (mk L) := by
  have f : Txt.find (mk L) (Str.ofString "(") = -1 := by
    rw [find_0, par40]
    exact find3_no (i := 0) (by simpa using h)
  refine ⟨?_, fun h1 => absurd (by rw [f]; decide) h1⟩
  unfold parseT
  rw [f, if_pos (by decide)]
theorem open_par {A z : List Nat} (hA : 40 ∉ A) (hz : 41 ∉ z) : parseT (mk (A ++ 40 :: z)) = .proto ∧ P3 (mk (A ++ 40 :: z)) := by
  have f : Txt.find (mk (A ++ 40 :: z)) (Str.ofString "(") = ((A.length : Nat) : Int) := by
    rw [find_0, par40, find3_at (A := A) (B := z) (by rw [List.drop_zero]) hA, Nat.zero_add]
  have g : Txt.find3 (mk (A ++ 40 :: z)) (Str.ofString ")") (Txt.find (mk (A ++ 40 :: z)) (Str.ofString "(") + 1) = -1 := by
    rw [f, par41, show ((A.length : Nat) : Int) + 1 = ((A.length + 1 : Nat) : Int) by omega]
    exact find3_no (by rw [drop_at]; exact hz)
  refine ⟨?_, fun _ h2 => absurd (by rw [g]; decide) h2⟩
  unfold parseT
  rw [g, f, if_neg (by omega), if_pos (by decide)]
theorem part_bound {p : Str} (h : p.length ≤ 640 ∧ ∀ c ∈ p.cps.toList, c < 69) : p.length ≤ 640 ∧ (reprText p).length ≤ sizeLine := by
  refine ⟨h.1, ?_⟩
  have := PySem.StrLaws.reprText_len p fun c hc => Nat.lt_of_lt_of_le (h.2 c hc) (by decide)
  rw [PySem.sizeLine_eq]
  omega
theorem default_ok : (default : Str).length ≤ 640 ∧ ∀ c ∈ (default : Str).cps.toList, c < 69 := by decide +kernel
theorem shut_par {A u B : List Nat} (hA : 40 ∉ A) (hu : 41 ∉ u) (ha : ∀ c ∈ u, Alf c) (hl : u.length ≤ 640) : parseT (mk (A ++ 40 :: (u ++ 41 :: B))) = readS (mk u) ∧ P3 (mk (A ++ 40 :: (u ++ 41 :: B))) := by
  generalize hL : A ++ 40 :: (u ++ 41 :: B) = L
  have hLl : L.length = A.length + 1 + u.length + 1 + B.length := by rw [← hL]; simp only [List.length_append, List.length_cons]; omega
  have f : Txt.find (mk L) (Str.ofString "(") = ((A.length : Nat) : Int) := by
    rw [find_0, par40, find3_at (A := A) (B := u ++ 41 :: B) (by rw [List.drop_zero, hL]) hA, Nat.zero_add]
  have hdrop : L.drop (A.length + 1) = u ++ 41 :: B := by rw [← hL, drop_at]
  have g : Txt.find3 (mk L) (Str.ofString ")") (Txt.find (mk L) (Str.ofString "(") + 1) = ((A.length + 1 + u.length : Nat) : Int) := by
    rw [f, par41, show ((A.length : Nat) : Int) + 1 = ((A.length + 1 : Nat) : Int) by omega]
    exact find3_at hdrop hu
  have hs : Txt.slice (mk L) (some (Txt.find (mk L) (Str.ofString "(") + 1)) (some (Txt.find3 (mk L) (Str.ofString ")") (Txt.find (mk L) (Str.ofString "(") + 1))) = mk u := by
    rw [g, f, show ((A.length : Nat) : Int) + 1 = ((A.length + 1 : Nat) : Int) by omega, slice_mk (by omega) (by rw [mk_len]; omega)]
    have hd : (mk L).cps.toList = L := by simp [mk]
    rw [hd, hdrop, show A.length + 1 + u.length - (A.length + 1) = u.length by omega, List.take_left]
  have i1 : ∀ k c, k < L.length → L[k]? = some c → Txt.item (mk L) (k : Int) = mk [c] := fun k c hk hc => by
    rw [item_mk hk]
    rw [List.getElem?_eq_getElem hk] at hc
    rw [Option.some.inj hc]
  have hget : ∀ k, L[A.length + 1 + k]? = (u ++ 41 :: B)[k]? := fun k => by rw [← hdrop, List.getElem?_drop]
  have hp3 : part3 (mk L) = (Txt.split (mk u) (Txt.item (mk L) (Txt.find (mk L) (Str.ofString "(") + 1))).getD 3 default := by
    unfold part3
    rw [hs]
  have e1 : Txt.find (mk L) (Str.ofString "(") + 1 = ((A.length + 1 : Nat) : Int) := by rw [f]; omega
  cases hc : u with
  | nil =>
    subst hc
    have it1 : Txt.item (mk L) (Txt.find (mk L) (Str.ofString "(") + 1) = mk [41] := by
      rw [e1]
      exact i1 _ _ (by omega) (by have := hget 0; simpa using this)
    have it2 : Txt.item (mk L) (Txt.find3 (mk L) (Str.ofString ")") (Txt.find (mk L) (Str.ofString "(") + 1) - 1) = mk [40] := by
      rw [g, show ((A.length + 1 + ([] : List Nat).length : Nat) : Int) - 1 = ((A.length : Nat) : Int) by simp only [List.length_nil]; omega]
      exact i1 _ _ (by omega) (by rw [← hL]; simp)
    have hn : (mk [41] != mk [40]) = true := by rw [bne, mk_eq]; rfl
    refine ⟨?_, fun _ _ => part_bound ?_⟩
    · rw [rd1 (by rw [plc_nil]; decide)]
      unfold parseT
      rw [it1, it2, g, f, if_neg (by omega), if_neg (by omega), if_pos hn]
    · rw [hp3, it1]
      have : Txt.split (mk []) (mk [41]) = [mk []] := by
        unfold Txt.split
        rw [if_pos (by rw [mk_len, mk_len]; rfl)]
      rw [this]
      exact default_ok
  | cons c t =>
    subst hc
    obtain ⟨z, hz⟩ : ∃ z, (c :: t).getLast? = some z := ⟨_, List.getLast?_eq_some_getLast (by simp)⟩
    have it1 : Txt.item (mk L) (Txt.find (mk L) (Str.ofString "(") + 1) = mk [c] := by
      rw [e1]
      exact i1 _ _ (by omega) (by have := hget 0; simpa using this)
    have it2 : Txt.item (mk L) (Txt.find3 (mk L) (Str.ofString ")") (Txt.find (mk L) (Str.ofString "(") + 1) - 1) = mk [z] := by
      rw [g, show ((A.length + 1 + (c :: t).length : Nat) : Int) - 1 = ((A.length + 1 + t.length : Nat) : Int) by simp only [List.length_cons]; omega]
      refine i1 _ _ (by simp only [List.length_cons] at hLl; omega) ?_
      rw [hget, List.getElem?_append_left (by simp)]
      rw [List.getLast?_eq_getElem?] at hz
      simpa using hz
    refine ⟨?_, fun _ _ => part_bound ?_⟩
    · rw [← core_eq ha hl hz]
      unfold parseT
      rw [hp3, hs, it1, it2, g, f, if_neg (by omega), if_neg (by omega)]
    · rw [hp3, it1, split_eq c (by simp), List.getD_eq_getElem?_getD, List.getElem?_map]
      cases q : (spC c [] (c :: t))[3]? with
      | none => exact default_ok
      | some p =>
        have hp := joinL_has (E := [c]) (List.mem_of_getElem? q)
        rw [join_spC, List.nil_append] at hp
        show (mk p).length ≤ 640 ∧ ∀ c ∈ (mk p).cps.toList, c < 69
        have hd : (mk p).cps.toList = p := by simp [mk]
        rw [mk_len, hd]
        refine ⟨by omega, fun x hx => ?_⟩
        have := ha x (hp.1 x hx)
        unfold Alf at this
        omega
noncomputable def dueH (e : List Nat) : Option Str → Heard
  | some y => readS (Txt.slice y (some (Txt.find y (Str.ofString "(") + 1)) none ++ mk e)
  | none => .proto
theorem dueS_eq {wd : Int} {sg : List Int} {e : List Nat} (h : ¬ wd < 4) : dueS wd sg e = if sg.take 3 = [2, 2, 9] then dueH e ((dueRun wd (sg ++ [24])).1.dropLast.find? hasPar) else .reply := by
  unfold dueS
  rw [if_neg h]
  by_cases q : sg.take 3 = [2, 2, 9]
  · rw [if_pos q, if_pos q]
    generalize (dueRun wd (sg ++ [24])).1.dropLast.find? hasPar = o
    cases o <;> rfl
  · rw [if_neg q, if_neg q]
theorem parse_rows {R : List (List Nat)} {e : List Nat} (hR : R ≠ []) (ha : ∀ r ∈ R, ∀ c ∈ r, Alf c) (he : e = [32] ∨ e = []) (hl : ∀ r ∈ R, r.length ≤ 70) :
    parseT (mk (joinL (e ++ [41]) R)) = dueH e ((R.map mk).dropLast.find? hasPar) ∧ P3 (mk (joinL (e ++ [41]) R)) := by
  have hE40 : 40 ∉ e ++ [41] := by rcases he with rfl | rfl <;> decide
  have hn41 : ∀ r ∈ R, 41 ∉ r := fun r hr q => by have := ha r hr 41 q; unfold Alf at this; omega
  have hmap : (R.map mk).dropLast.find? hasPar = (R.dropLast.find? fun r => decide (40 ∈ r)).map mk := by
    rw [← List.map_dropLast, List.find?_map]
    congr 2
    funext r
    exact hasPar_eq r
  rw [hmap]
  obtain ⟨lst, hlast⟩ : ∃ lst, R = R.dropLast ++ [lst] := ⟨R.getLast hR, (List.dropLast_concat_getLast hR).symm⟩
  have hlm : lst ∈ R := by rw [hlast]; simp
  have freeA : ∀ (pre : List (List Nat)) (A : List Nat), (∀ r ∈ pre, 40 ∉ r) → (∀ c ∈ A, c ∈ e ++ [41] ∨ ∃ r ∈ pre, c ∈ r) → 40 ∉ A := fun pre A h1 h2 q => by
    rcases h2 40 q with z | ⟨r, hr, z⟩
    · exact hE40 z
    · exact h1 r hr z
  cases hq : R.dropLast.find? fun r => decide (40 ∈ r) with
  | none =>
    have hno : ∀ r ∈ R.dropLast, 40 ∉ r := fun r hr => by simpa using List.find?_eq_none.mp hq r hr
    obtain ⟨A, eA, hA⟩ := joinL_pre (e ++ [41]) R.dropLast [lst] (by simp)
    rw [← hlast] at eA
    have h40 := freeA _ A hno hA
    rw [eA]
    show parseT (mk (A ++ lst)) = .proto ∧ P3 (mk (A ++ lst))
    by_cases hp : 40 ∈ lst
    · obtain ⟨y1, z, ey, hy1⟩ := List.eq_append_cons_of_mem hp
      have hz : 41 ∉ z := fun q => hn41 _ hlm (by rw [ey]; simp [q])
      rw [ey, ← List.append_assoc]
      exact open_par (fun q => by rcases List.mem_append.mp q with q | q; exact h40 q; exact hy1 q) hz
    · exact no_par fun q => by rcases List.mem_append.mp q with q | q; exact h40 q; exact hp q
  | some y =>
    obtain ⟨hy, pre, post, hpre, hfree⟩ := List.find?_eq_some_iff_append.mp hq
    have hfree : ∀ r ∈ pre, 40 ∉ r := fun r hr => by simpa using hfree r hr
    have hy40 : 40 ∈ y := of_decide_eq_true hy
    obtain ⟨y1, z, ey, hy1⟩ := List.eq_append_cons_of_mem hy40
    have eR : R = pre ++ (y :: (post ++ [lst])) := by
      rw [hlast, hpre]
      simp
    have hyR : y ∈ R := by rw [eR]; simp
    obtain ⟨A, eA, hA⟩ := joinL_pre (e ++ [41]) pre (y :: (post ++ [lst])) (by simp)
    rw [← eR] at eA
    have h40 := freeA _ A hfree hA
    have eJ := joinL_app (e ++ [41]) [y] (post ++ [lst]) (by simp) (by simp)
    generalize hB : joinL (e ++ [41]) (post ++ [lst]) = B at eJ
    have eX : joinL (e ++ [41]) R = (A ++ y1) ++ 40 :: ((z ++ e) ++ 41 :: B) := by
      rw [eA]
      show A ++ joinL (e ++ [41]) ([y] ++ (post ++ [lst])) = _
      rw [eJ]
      show A ++ (y ++ (e ++ [41]) ++ B) = _
      rw [ey]
      simp
    have hz41 : 41 ∉ z ++ e := fun q => by
      rcases List.mem_append.mp q with q | q
      · exact hn41 y hyR (by rw [ey]; simp [q])
      · rcases he with rfl | rfl
        · simp at q
        · exact nomatch q
    have hzA : ∀ c ∈ z ++ e, Alf c := fun c hc => by
      rcases List.mem_append.mp hc with q | q
      · exact ha y hyR c (by rw [ey]; simp [q])
      · rcases he with rfl | rfl
        · have : c = 32 := by simpa using q
          subst this
          unfold Alf
          omega
        · exact nomatch q
    have hyl := hl y hyR
    have hel : e.length ≤ 1 := by rcases he with rfl | rfl <;> decide
    have hzl : (z ++ e).length ≤ 640 := by
      rw [ey] at hyl
      simp only [List.length_append, List.length_cons] at hyl ⊢
      omega
    rw [eX]
    have key := shut_par (A := A ++ y1) (B := B) (fun q => by rcases List.mem_append.mp q with q | q; exact h40 q; exact hy1 q) hz41 hzA hzl
    refine ⟨key.1.trans ?_, key.2⟩
    show readS (mk (z ++ e)) = readS (Txt.slice (mk y) (some (Txt.find (mk y) (Str.ofString "(") + 1)) none ++ mk e)
    have fy : Txt.find (mk y) (Str.ofString "(") = ((y1.length : Nat) : Int) := by
      rw [find_0, par40, find3_at (A := y1) (B := z) (by rw [List.drop_zero, ey]) hy1, Nat.zero_add]
    have hd : (mk y).cps.toList = y := by simp [mk]
    rw [fy, show ((y1.length : Nat) : Int) + 1 = ((y1.length + 1 : Nat) : Int) by omega, slice_from (by rw [mk_len, ey]; simp only [List.length_append, List.length_cons]; omega), hd]
    conv => rhs; rw [ey]
    rw [drop_at, mk_app]
end
section
theorem qS_alf : ∀ c, c = 32 ∨ c = 9 → ∀ x ∈ qS c, Alf x := by
  rintro c (rfl | rfl) x hx
  · have h : x ∈ [61, 50, 48] := hx
    simp only [List.mem_cons, List.not_mem_nil, or_false] at h
    unfold Alf
    omega
  · have h : x ∈ [61, 48, 57] := hx
    simp only [List.mem_cons, List.not_mem_nil, or_false] at h
    unfold Alf
    omega
theorem alf61 : Alf 61 := .inr (.inl rfl)
theorem fin_alf {w : Nat} {r : List Nat} (h : ∀ c ∈ r, Alf c) : ∀ z ∈ finR2 w r, ∀ c ∈ z, Alf c := by
  intro z hz c hc
  unfold finR2 at hz
  by_cases hb : r.getLast? = some 32 ∨ r.getLast? = some 9
  · rw [if_pos hb] at hz
    have hq : ∀ x ∈ qS (r.getLastD 0), Alf x := qS_alf _ (by
      rw [List.getLastD_eq_getLast?]
      rcases hb with q | q <;> rw [q] <;> simp)
    have hdl : ∀ x ∈ r.dropLast, Alf x := fun x hx => h x ((List.dropLast_sublist r).subset hx)
    have sing : ∀ x ∈ [61], Alf x := fun x hx => by rw [List.mem_singleton.mp hx]; exact alf61
    split at hz
    · rw [List.mem_singleton.mp hz] at hc
      rcases List.mem_append.mp hc with q | q
      · exact hdl c q
      · exact hq c q
    · split at hz
      · rcases List.mem_cons.mp hz with q | q
        · rw [q] at hc
          rcases List.mem_append.mp hc with q | q
          · exact h c q
          · exact sing c q
        · rw [List.mem_singleton.mp q] at hc
          exact nomatch hc
      · rcases List.mem_cons.mp hz with q | q
        · rw [q] at hc
          rcases List.mem_append.mp hc with q | q
          · exact hdl c q
          · exact sing c q
        · rw [List.mem_singleton.mp q] at hc
          exact hq c hc
  · rw [if_neg hb] at hz
    rw [List.mem_singleton.mp hz] at hc
    exact h c hc
theorem cut2_alf {w : Nat} : ∀ (n : Nat) (r : List Nat), (∀ c ∈ r, Alf c) → ∀ z ∈ cut2 w n r, ∀ c ∈ z, Alf c
  | 0, r, h => fin_alf h
  | n + 1, r, h => by
    have ht : ∀ m, ∀ c ∈ r.take m, Alf c := fun m c hc => h c (List.mem_of_mem_take hc)
    have hd : ∀ m, ∀ c ∈ r.drop m, Alf c := fun m c hc => h c (List.mem_of_mem_drop hc)
    intro z hz
    rw [cut2] at hz
    split at hz
    · exact fin_alf h z hz
    · split at hz
      · rcases List.mem_cons.mp hz with q | q
        · rw [q]; exact ht _
        · exact cut2_alf n _ (hd _) z q
      · split at hz
        · rcases List.mem_cons.mp hz with q | q
          · rw [q]; exact ht _
          · exact cut2_alf n _ (hd _) z q
        · rcases List.mem_cons.mp hz with q | q
          · rw [q]
            intro c hc
            rcases List.mem_append.mp hc with q | q
            · exact ht _ c q
            · rw [List.mem_singleton.mp q]; exact alf61
          · exact cut2_alf n _ (hd _) z q
theorem rowsR_alf {w : Nat} {sg : List Int} (h : ∀ k ∈ sg, 0 ≤ k ∧ k < 25) : ∀ r ∈ rowsR w sg, ∀ c ∈ r, Alf c := by
  intro r hr
  obtain ⟨g, hg, hr⟩ := List.mem_flatMap.mp hr
  have hl := splK_low [] h (fun _ z => nomatch z) g hg
  refine cut2_alf _ _ (fun c hc => ?_) r hr
  obtain ⟨k, hk, hc⟩ := List.mem_flatMap.mp hc
  exact pce_alf (hl k hk) c hc
theorem finR2_ne (w : Nat) (r : List Nat) : finR2 w r ≠ [] := by
  unfold finR2
  (repeat' split) <;> simp
theorem cut2_ne (w : Nat) : ∀ (n : Nat) (r : List Nat), cut2 w n r ≠ []
  | 0, r => finR2_ne w r
  | n + 1, r => by
    rw [cut2]
    split
    · exact finR2_ne w r
    · (repeat' split) <;> simp
theorem rowsR_ne (w : Nat) (sg : List Int) : rowsR w sg ≠ [] := by
  unfold rowsR
  cases q : splK [] sg with
  | nil => exact absurd q (splK_ne sg [])
  | cons g t =>
    rw [List.flatMap_cons]
    intro z
    exact cut2_ne _ _ _ (List.append_eq_nil_iff.mp z).1
theorem dueJ_all {wd : Int} : ∀ (m : Nat) (pre : List Int), pre.length = m → m ≤ 21 → (∀ k ∈ pre, 0 ≤ k ∧ k < 25) → ∃ rs ln, DueJ wd pre rs ln
  | 0, pre, hm, _, _ => by
    have : pre = [] := List.length_eq_zero_iff.mp hm
    subst this
    exact ⟨[], [], DueJ.nil⟩
  | m + 1, pre, hm, hl, h => by
    rcases List.eq_nil_or_concat pre with q | ⟨p, k, q⟩
    · subst q; simp at hm
    · rw [List.concat_eq_append] at q
      subst q
      have hp : p.length = m := by rw [List.length_append, List.length_singleton] at hm; omega
      obtain ⟨rs, ln, J⟩ := dueJ_all (wd := wd) m p hp (by omega) fun z hz => h z (List.mem_append.mpr (.inl hz))
      have hk := h k (by simp)
      by_cases e : k = 24
      · exact ⟨_, _, J.cut e (by omega)⟩
      · exact ⟨_, _, J.on e hk⟩
theorem joinL_len {E : List Nat} {B : Nat} : ∀ R : List (List Nat), (∀ r ∈ R, r.length ≤ B) → (joinL E R).length ≤ R.length * (B + E.length)
  | [], _ => Nat.zero_le _
  | [x], h => by
    have h1 := h x (.head _)
    show x.length ≤ (0 + 1) * (B + E.length)
    omega
  | x :: y :: R, h => by
    have h1 := h x (.head _)
    have ih := joinL_len (E := E) (y :: R) fun r hr => h r (.tail _ hr)
    show (x ++ E ++ joinL E (y :: R)).length ≤ ((y :: R).length + 1) * (B + E.length)
    rw [List.length_append, List.length_append, Nat.add_mul, Nat.one_mul]
    omega
theorem splK_head : ∀ (rest ln : List Int), ∃ g t, splK ln rest = (ln ++ g) :: t
  | [], ln => ⟨[], [], by simp [splK]⟩
  | k :: rest, ln => by
    rw [splK]
    by_cases e : k = 24
    · rw [if_pos e]; exact ⟨[], splK [] rest, by simp⟩
    · rw [if_neg e]
      obtain ⟨g, t, q⟩ := splK_head rest (ln ++ [k])
      exact ⟨k :: g, t, by rw [q]; simp⟩
theorem cut2_head {w : Nat} (hw : 4 ≤ w) {a b c : Nat} {r : List Nat} (hb : b ≠ 61) (hc : c ≠ 61) (hc2 : c ≠ 32 ∧ c ≠ 9) : ∀ n, ∃ z t, cut2 w n (a :: b :: c :: r) = (a :: b :: c :: z) :: t := by
  have hf : ∃ z t, finR2 w (a :: b :: c :: r) = (a :: b :: c :: z) :: t := by
    unfold finR2
    by_cases hl : (a :: b :: c :: r).getLast? = some 32 ∨ (a :: b :: c :: r).getLast? = some 9
    · rw [if_pos hl]
      cases r with
      | nil =>
        exfalso
        rcases hl with q | q
        · exact hc2.1 (by simpa using q)
        · exact hc2.2 (by simpa using q)
      | cons d r =>
        have e : (a :: b :: c :: d :: r).dropLast = a :: b :: c :: (d :: r).dropLast := rfl
        rw [e]
        split
        · exact ⟨_, _, rfl⟩
        · split
          · exact ⟨_, _, rfl⟩
          · exact ⟨_, _, rfl⟩
    · rw [if_neg hl]; exact ⟨r, [], rfl⟩
  have ht : ∀ m, 3 ≤ m → (a :: b :: c :: r).take m = a :: b :: c :: r.take (m - 3) := fun m hm => by
    obtain ⟨j, rfl⟩ : ∃ j, m = j + 3 := ⟨m - 3, by omega⟩
    rfl
  have h12 : ∀ m, 1 ≤ m → (a :: b :: c :: r)[m]? = some 61 → 3 ≤ m := fun m hm q => by
    match m, q with
    | 1, q => simp at q; exact absurd q hb
    | 2, q => simp at q; exact absurd q hc
    | m + 3, _ => omega
  intro n
  cases n with
  | zero => exact hf
  | succ n =>
    obtain ⟨v, rfl⟩ : ∃ v, w = v + 4 := ⟨w - 4, by omega⟩
    rw [cut2, show v + 4 - 1 = v + 3 from rfl, show v + 4 - 2 = v + 2 from rfl, show v + 4 - 3 = v + 1 from rfl]
    split
    · exact hf
    · split
      · rename_i q
        have := h12 (v + 1) (by omega) q
        rw [ht _ (by omega)]
        exact ⟨_, _, rfl⟩
      · split
        · rename_i q
          have := h12 (v + 2) (by omega) q
          rw [ht _ (by omega)]
          exact ⟨_, _, rfl⟩
        · rw [ht _ (by omega)]
          exact ⟨_, _, rfl⟩
theorem first3 {w : Nat} {E : List Nat} {k0 k1 k2 : Int} {rest : List Int} (hw : 4 ≤ w) (h0 : 0 ≤ k0 ∧ k0 < 10) (h1 : 0 ≤ k1 ∧ k1 < 10) (h2 : 0 ≤ k2 ∧ k2 < 10) :
    ∃ Y, joinL E (rowsR w (k0 :: k1 :: k2 :: rest)) = (48 + k0.toNat) :: (48 + k1.toNat) :: (48 + k2.toNat) :: Y := by
  have e0 : splK [] (k0 :: k1 :: k2 :: rest) = splK [k0, k1, k2] rest := by
    rw [splK, if_neg (by omega), splK, if_neg (by omega), splK, if_neg (by omega)]
    rfl
  obtain ⟨g, t, eg⟩ := splK_head rest [k0, k1, k2]
  have ep : ∀ {k : Int}, 0 ≤ k ∧ k < 10 → pce k.toNat = [48 + k.toNat] := fun hk => by
    unfold pce
    rw [if_pos (by omega)]
  have eP : PT ([k0, k1, k2] ++ g) = (48 + k0.toNat) :: (48 + k1.toNat) :: (48 + k2.toNat) :: PT g := by
    rw [PT_app]
    have : PT [k0, k1, k2] = [48 + k0.toNat, 48 + k1.toNat, 48 + k2.toNat] := by
      unfold PT
      simp only [List.flatMap_cons, List.flatMap_nil, ep h0, ep h1, ep h2]
      rfl
    rw [this]
    rfl
  obtain ⟨z, t2, ez⟩ := cut2_head (w := w) hw (a := 48 + k0.toNat) (b := 48 + k1.toNat) (c := 48 + k2.toNat) (r := PT g) (by omega) (by omega) ⟨by omega, by omega⟩ (PT ([k0, k1, k2] ++ g)).length
  unfold rowsR
  rw [e0, eg, List.flatMap_cons]
  have : cut2 w (PT ([k0, k1, k2] ++ g)).length (PT ([k0, k1, k2] ++ g)) = ((48 + k0.toNat) :: (48 + k1.toNat) :: (48 + k2.toNat) :: z) :: t2 := by
    rw [← ez]
    congr 1
  rw [this, List.cons_append]
  generalize (t2 ++ List.flatMap (fun g => cut2 w (PT g).length (PT g)) t) = S
  cases S with
  | nil => exact ⟨z, rfl⟩
  | cons y S => exact ⟨z ++ E ++ joinL E (y :: S), by show _ ++ E ++ joinL E (y :: S) = _; simp⟩
theorem slice3 (a b c : Nat) (Y : List Nat) : Txt.slice (mk (a :: b :: c :: Y)) none (some 3) = mk [a, b, c] := by
  have e : Txt.slice (mk (a :: b :: c :: Y)) none (some 3) = Txt.slice (mk (a :: b :: c :: Y)) (some ((0 : Nat) : Int)) (some ((3 : Nat) : Int)) := by
    unfold Txt.slice
    rw [PySem.StrLaws.sliceIdx_none_lo]
    rfl
  rw [e, slice_mk (by omega) (by rw [mk_len]; simp only [List.length_cons]; omega)]
  have hd : (mk (a :: b :: c :: Y)).cps.toList = a :: b :: c :: Y := by simp [mk]
  rw [hd]
  rfl
theorem mk229 : Str.ofString "229" = mk [50, 50, 57] := by decide +kernel
theorem kinds3 (ns : List Int) : ∃ k0 k1 k2 rest, kindsS ns = k0 :: k1 :: k2 :: rest ∧ (0 ≤ k0 ∧ k0 < 10) ∧ (0 ≤ k1 ∧ k1 < 10) ∧ (0 ≤ k2 ∧ k2 < 10) := by
  unfold kindsS codeS
  (repeat' split) <;> exact ⟨_, _, _, _, rfl, by decide, by decide, by decide⟩
theorem plain_w (ns : List Int) {e : List Nat} (he : e = [32] ∨ e = []) {w : Nat} (hw : 4 ≤ w) :
    parseS (mk (beF ((kindsS ns).flatMap fun k => sgn k.toNat) (w : Int) (e ++ [41]))) = dueS (w : Int) (kindsS ns) e ∧
    (mk (beF ((kindsS ns).flatMap fun k => sgn k.toNat) (w : Int) (e ++ [41]))).length ≤ 50000 ∧
    P3 (mk (beF ((kindsS ns).flatMap fun k => sgn k.toNat) (w : Int) (e ++ [41]))) := by
  obtain ⟨⟨hl1, hl2⟩, hk⟩ := kindsS_ok ns
  obtain ⟨k0, k1, k2, rest, ek, h0, h1, h2⟩ := kinds3 ns
  generalize kindsS ns = sg at hl1 hl2 hk ek
  have hne : sg ≠ [] := by rw [ek]; simp
  have hb := be_rows (w := w) (e := e ++ [41]) hne hk
  have hdr := due_rows (w := w) hw hk
  have hel : (e ++ [41]).length ≤ 2 := by rcases he with rfl | rfl <;> decide
  obtain ⟨rs, ln, J⟩ := dueJ_all (wd := (w : Int)) (sg ++ [24]).length (sg ++ [24]) rfl (by rw [List.length_append, List.length_singleton]; omega) fun k hk' => by
    rcases List.mem_append.mp hk' with q | q
    · exact hk k q
    · rw [List.mem_singleton.mp q]; omega
  have hrs : rs = (rowsR w sg).map mk := by rw [← hdr, J.run]
  have hlen : ∀ r ∈ rowsR w sg, r.length ≤ 70 := fun r hr => by
    have := (J.good (by rw [List.length_append, List.length_singleton]; omega) (mk r) (by rw [hrs]; exact List.mem_map.mpr ⟨r, hr, rfl⟩)).1
    rw [mk_len] at this
    exact this
  have hcount : (rowsR w sg).length ≤ 420 := by
    have := J.rows
    rw [hrs, List.length_map, List.length_append, List.length_singleton] at this
    omega
  have hpr := parse_rows (R := rowsR w sg) (e := e) (rowsR_ne w sg) (rowsR_alf hk) he hlen
  have hfirst := first3 (w := w) (E := e ++ [41]) (rest := rest) hw h0 h1 h2
  rw [← ek] at hfirst
  rw [hb]
  refine ⟨?_, ?_, hpr.2⟩
  · obtain ⟨Y, eY⟩ := hfirst
    rw [parseS_eq, hpr.1, ← hdr]
    have es : Txt.slice (mk (joinL (e ++ [41]) (rowsR w sg))) none (some 3) = mk [48 + k0.toNat, 48 + k1.toNat, 48 + k2.toNat] := by rw [eY, slice3]
    rw [es, mk229]
    have ht : sg.take 3 = [k0, k1, k2] := by rw [ek]; rfl
    rw [dueS_eq (wd := (w : Int)) (by omega), ht]
    by_cases q : [k0, k1, k2] = [2, 2, 9]
    · have q' : k0 = 2 ∧ k1 = 2 ∧ k2 = 9 := by simpa using q
      have hn : ¬ (mk [48 + k0.toNat, 48 + k1.toNat, 48 + k2.toNat] != mk [50, 50, 57]) = true := by
        rw [q'.1, q'.2.1, q'.2.2, bne, mk_eq]
        decide
      rw [if_neg hn, if_pos q]
    · have hn : (mk [48 + k0.toNat, 48 + k1.toNat, 48 + k2.toNat] != mk [50, 50, 57]) = true := by
        rw [bne, mk_eq]
        have : ¬ [48 + k0.toNat, 48 + k1.toNat, 48 + k2.toNat] = [50, 50, 57] := fun z => q (by
          simp only [List.cons.injEq, and_true] at z ⊢
          omega)
        rw [decide_eq_false this]
        rfl
      rw [if_pos hn, if_neg q]
  · rw [mk_len]
    have h1 := joinL_len (E := e ++ [41]) (rowsR w sg) hlen
    have h2 : (rowsR w sg).length * (70 + (e ++ [41]).length) ≤ 420 * 72 := Nat.mul_le_mul hcount (by omega)
    omega
theorem plain_ok (ns : List Int) (e : List Nat) (he : e = [32] ∨ e = []) : PlainOK (kindsS ns) ((kindsS ns).flatMap fun k => sgn k.toNat) e := ⟨fun wd h1 h2 => by
  obtain ⟨w, rfl⟩ : ∃ w : Nat, wd = w := ⟨wd.toNat, by omega⟩
  obtain ⟨a, b, c⟩ := plain_w ns he (w := w) (by omega)
  exact ⟨_, ⟨rfl⟩, ⟨a⟩, b, ⟨c⟩⟩⟩
end
theorem said9 : PySem.Challenge.rw_rw0035_01.wellSaid = true := by decide +kernel
theorem hold_all : PySem.Challenge.rw_rw0035_01.Holds := holds_law said9 fun said => hold_end said left_ok plain_ok
end Mine
set_option maxRecDepth 100000 in
set_option maxHeartbeats 8000000 in
theorem PySem.Challenge.cw_rw0035_01_holds : PySem.Challenge.rw_rw0035_01.Holds := by
  exact Mine.hold_all
