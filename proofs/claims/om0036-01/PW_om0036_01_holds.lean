import PyProof.Rows.All
import Wide.All
import OpenK.AllK
import Wide.FinOn
import KE.KEqDat
import PyProof.FString5
import PyProof.ExcStrCall
import PySem.Challenge.RW_om0036_01
set_option Elab.async false

section
open PySem PySem.W PyProof.Rows
set_option Elab.async false
set_option maxRecDepth 100000
set_option maxHeartbeats 8000000
set_option linter.all false
namespace Mine
def Cell (i : Nat) (n : Str) (a : Arguments) (b : List Stmt) (c : List PySem.Expr) (d : Option PySem.Expr) (e : List TypeParam) (g : Scope) (t : Option Scope) (j : Str) (k : Pos) : Prop :=
  (PySem.Challenge.pw_om0036_01.main.body.drop i).head? = some (.FunctionDef n a b c d e g t j k)
namespace hd

noncomputable def o_2 : Params → Obj := fun P => { cls := Value.none, dict := @none Nat, data := Data.dict (List.toArray (List.cons { hash := PyData.keyHash P (Str.ofString "type.__subclasses__.Exception.0"), key := Value.str (Str.ofString "type.__subclasses__.Exception.0") (205 : Nat), val := Value.int (24 : Int) (0 : Nat) } (List.cons { hash := PyData.keyHash P (Str.ofString "type.__subclasses__.Exception.n"), key := Value.str (Str.ofString "type.__subclasses__.Exception.n") (206 : Nat), val := Value.int (1 : Int) (0 : Nat) } List.nil))) (2 : Nat) }
noncomputable def o_3 : Params → Obj := fun P => { cls := Value.type "dict", dict := @none Nat, data := Data.dict (List.toArray (List.cons { hash := PyData.keyHash P (Str.ofString "__name__"), key := Value.str (Str.ofString "__name__") (165 : Nat), val := Value.str (Str.ofString "law_om0036_01") (345 : Nat) } (List.cons { hash := PyData.keyHash P (Str.ofString "__doc__"), key := Value.str (Str.ofString "__doc__") (166 : Nat), val := Value.none } (List.cons { hash := PyData.keyHash P (Str.ofString "__package__"), key := Value.str (Str.ofString "__package__") (167 : Nat), val := Value.none } (List.cons { hash := PyData.keyHash P (Str.ofString "__loader__"), key := Value.str (Str.ofString "__loader__") (168 : Nat), val := Value.builtin "__main__.__loader__#opaque" } (List.cons { hash := PyData.keyHash P (Str.ofString "__spec__"), key := Value.str (Str.ofString "__spec__") (169 : Nat), val := Value.none } (List.cons { hash := PyData.keyHash P (Str.ofString "__annotations__"), key := Value.str (Str.ofString "__annotations__") (170 : Nat), val := Value.ref (6 : Nat) } (List.cons { hash := PyData.keyHash P (Str.ofString "__builtins__"), key := Value.str (Str.ofString "__builtins__") (171 : Nat), val := Value.ref (4 : Nat) } (List.cons { hash := PyData.keyHash P (Str.ofString "__file__"), key := Value.str (Str.ofString "__file__") (173 : Nat), val := Value.str (Str.ofString "/claim/cut.py") (172 : Nat) } (List.cons { hash := PyData.keyHash P (Str.ofString "__cached__"), key := Value.str (Str.ofString "__cached__") (174 : Nat), val := Value.none } (List.cons { hash := PyData.keyHash P (Str.ofString "Error"), key := Value.str (Str.ofString "Error") (208 : Nat), val := Value.ref (24 : Nat) } (List.cons { hash := PyData.keyHash P (Str.ofString "error_reply"), key := Value.str (Str.ofString "error_reply") (224 : Nat), val := Value.ref (37 : Nat) } (List.cons { hash := PyData.keyHash P (Str.ofString "parse257"), key := Value.str (Str.ofString "parse257") (235 : Nat), val := Value.ref (46 : Nat) } (List.cons { hash := PyData.keyHash P (Str.ofString "S_IFMT"), key := Value.str (Str.ofString "S_IFMT") (244 : Nat), val := Value.ref (53 : Nat) } (List.cons { hash := PyData.keyHash P (Str.ofString "S_IFDIR"), key := Value.str (Str.ofString "S_IFDIR") (246 : Nat), val := Value.int (16384 : Int) (245 : Nat) } (List.cons { hash := PyData.keyHash P (Str.ofString "S_IFCHR"), key := Value.str (Str.ofString "S_IFCHR") (248 : Nat), val := Value.int (8192 : Int) (247 : Nat) } (List.cons { hash := PyData.keyHash P (Str.ofString "S_IFBLK"), key := Value.str (Str.ofString "S_IFBLK") (250 : Nat), val := Value.int (24576 : Int) (249 : Nat) } (List.cons { hash := PyData.keyHash P (Str.ofString "S_IFREG"), key := Value.str (Str.ofString "S_IFREG") (252 : Nat), val := Value.int (32768 : Int) (251 : Nat) } (List.cons { hash := PyData.keyHash P (Str.ofString "S_IFIFO"), key := Value.str (Str.ofString "S_IFIFO") (254 : Nat), val := Value.int (4096 : Int) (253 : Nat) } (List.cons { hash := PyData.keyHash P (Str.ofString "S_IFLNK"), key := Value.str (Str.ofString "S_IFLNK") (256 : Nat), val := Value.int (40960 : Int) (255 : Nat) } (List.cons { hash := PyData.keyHash P (Str.ofString "S_IFSOCK"), key := Value.str (Str.ofString "S_IFSOCK") (258 : Nat), val := Value.int (49152 : Int) (257 : Nat) } (List.cons { hash := PyData.keyHash P (Str.ofString "S_ISUID"), key := Value.str (Str.ofString "S_ISUID") (260 : Nat), val := Value.int (2048 : Int) (259 : Nat) } (List.cons { hash := PyData.keyHash P (Str.ofString "S_ISGID"), key := Value.str (Str.ofString "S_ISGID") (262 : Nat), val := Value.int (1024 : Int) (261 : Nat) } (List.cons { hash := PyData.keyHash P (Str.ofString "S_ISVTX"), key := Value.str (Str.ofString "S_ISVTX") (264 : Nat), val := Value.int (512 : Int) (263 : Nat) } (List.cons { hash := PyData.keyHash P (Str.ofString "S_IRUSR"), key := Value.str (Str.ofString "S_IRUSR") (266 : Nat), val := Value.int (256 : Int) (265 : Nat) } (List.cons { hash := PyData.keyHash P (Str.ofString "S_IWUSR"), key := Value.str (Str.ofString "S_IWUSR") (268 : Nat), val := Value.int (128 : Int) (267 : Nat) } (List.cons { hash := PyData.keyHash P (Str.ofString "S_IXUSR"), key := Value.str (Str.ofString "S_IXUSR") (270 : Nat), val := Value.int (64 : Int) (269 : Nat) } (List.cons { hash := PyData.keyHash P (Str.ofString "S_IRGRP"), key := Value.str (Str.ofString "S_IRGRP") (272 : Nat), val := Value.int (32 : Int) (271 : Nat) } (List.cons { hash := PyData.keyHash P (Str.ofString "S_IWGRP"), key := Value.str (Str.ofString "S_IWGRP") (274 : Nat), val := Value.int (16 : Int) (273 : Nat) } (List.cons { hash := PyData.keyHash P (Str.ofString "S_IXGRP"), key := Value.str (Str.ofString "S_IXGRP") (276 : Nat), val := Value.int (8 : Int) (275 : Nat) } (List.cons { hash := PyData.keyHash P (Str.ofString "S_IROTH"), key := Value.str (Str.ofString "S_IROTH") (278 : Nat), val := Value.int (4 : Int) (277 : Nat) } (List.cons { hash := PyData.keyHash P (Str.ofString "S_IWOTH"), key := Value.str (Str.ofString "S_IWOTH") (280 : Nat), val := Value.int (2 : Int) (279 : Nat) } (List.cons { hash := PyData.keyHash P (Str.ofString "S_IXOTH"), key := Value.str (Str.ofString "S_IXOTH") (282 : Nat), val := Value.int (1 : Int) (281 : Nat) } (List.cons { hash := PyData.keyHash P (Str.ofString "_filemode_table"), key := Value.str (Str.ofString "_filemode_table") (308 : Nat), val := Value.ref (86 : Nat) } (List.cons { hash := PyData.keyHash P (Str.ofString "filemode"), key := Value.str (Str.ofString "filemode") (320 : Nat), val := Value.ref (93 : Nat) } (List.cons { hash := PyData.keyHash P (Str.ofString "sorted_list_difference"), key := Value.str (Str.ofString "sorted_list_difference") (336 : Nat), val := Value.ref (100 : Nat) } (List.cons { hash := PyData.keyHash P (Str.ofString "three_way_cmp"), key := Value.str (Str.ofString "three_way_cmp") (344 : Nat), val := Value.ref (107 : Nat) } (List.cons { hash := PyData.keyHash P (Str.ofString "_law_files"), key := Value.str (Str.ofString "_law_files") (352 : Nat), val := Value.ref (112 : Nat) } (List.cons { hash := PyData.keyHash P (Str.ofString "_law_signs"), key := Value.str (Str.ofString "_law_signs") (364 : Nat), val := Value.ref (119 : Nat) } (List.cons { hash := PyData.keyHash P (Str.ofString "_law_reply"), key := Value.str (Str.ofString "_law_reply") (377 : Nat), val := Value.ref (126 : Nat) } (List.cons { hash := PyData.keyHash P (Str.ofString "_law_listing"), key := Value.str (Str.ofString "_law_listing") (383 : Nat), val := Value.ref (131 : Nat) } (List.cons { hash := PyData.keyHash P (Str.ofString "_law_report"), key := Value.str (Str.ofString "_law_report") (395 : Nat), val := Value.ref (138 : Nat) } (List.cons { hash := PyData.keyHash P (Str.ofString "_law_thrice"), key := Value.str (Str.ofString "_law_thrice") (401 : Nat), val := Value.ref (143 : Nat) } (List.cons { hash := PyData.keyHash P (Str.ofString "law"), key := Value.str (Str.ofString "law") (407 : Nat), val := Value.ref (148 : Nat) } List.nil)))))))))))))))))))))))))))))))))))))))))))) (43 : Nat) }
noncomputable def o_11 : Params → Obj := fun P => { cls := Value.type "tuple", dict := @none Nat, data := Data.seq (List.toArray List.nil) }
noncomputable def o_12 : Params → Obj := fun P => { cls := Value.none, dict := @none Nat, data := Data.fields (List.toArray (List.cons (Value.int (2 : Int) (0 : Nat)) (List.cons (Value.int (0 : Int) (0 : Nat)) (List.cons (Value.ref (20 : Nat)) (List.cons (Value.int (4 : Int) (0 : Nat)) (List.cons (Value.int (0 : Int) (0 : Nat)) (List.cons (Value.ref (33 : Nat)) (List.cons (Value.int (6 : Int) (0 : Nat)) (List.cons (Value.int (0 : Int) (0 : Nat)) (List.cons (Value.ref (45 : Nat)) (List.cons (Value.int (24 : Int) (0 : Nat)) (List.cons (Value.int (0 : Int) (0 : Nat)) (List.cons (Value.ref (52 : Nat)) (List.cons (Value.int (46 : Int) (0 : Nat)) (List.cons (Value.int (0 : Int) (0 : Nat)) (List.cons (Value.ref (92 : Nat)) (List.cons (Value.int (64 : Int) (0 : Nat)) (List.cons (Value.int (0 : Int) (0 : Nat)) (List.cons (Value.ref (99 : Nat)) (List.cons (Value.int (96 : Int) (0 : Nat)) (List.cons (Value.int (0 : Int) (0 : Nat)) (List.cons (Value.ref (106 : Nat)) (List.cons (Value.int (99 : Int) (0 : Nat)) (List.cons (Value.int (0 : Int) (0 : Nat)) (List.cons (Value.ref (111 : Nat)) (List.cons (Value.int (103 : Int) (0 : Nat)) (List.cons (Value.int (0 : Int) (0 : Nat)) (List.cons (Value.ref (118 : Nat)) (List.cons (Value.int (111 : Int) (0 : Nat)) (List.cons (Value.int (0 : Int) (0 : Nat)) (List.cons (Value.ref (125 : Nat)) (List.cons (Value.int (116 : Int) (0 : Nat)) (List.cons (Value.int (0 : Int) (0 : Nat)) (List.cons (Value.ref (130 : Nat)) (List.cons (Value.int (128 : Int) (0 : Nat)) (List.cons (Value.int (0 : Int) (0 : Nat)) (List.cons (Value.ref (137 : Nat)) (List.cons (Value.int (136 : Int) (0 : Nat)) (List.cons (Value.int (0 : Int) (0 : Nat)) (List.cons (Value.ref (142 : Nat)) (List.cons (Value.int (138 : Int) (0 : Nat)) (List.cons (Value.int (0 : Int) (0 : Nat)) (List.cons (Value.ref (147 : Nat)) List.nil))))))))))))))))))))))))))))))))))))))))))) }
noncomputable def o_13 : Params → Obj := fun P => { cls := Value.type "code", dict := @none Nat, data := Data.fields (List.toArray (List.cons (Value.str (Str.ofString "<module>") (182 : Nat)) (List.cons (Value.str (Str.ofString "<module>") (183 : Nat)) (List.cons (Value.str (Str.ofString "/claim/cut.py") (184 : Nat)) (List.cons (Value.int (1 : Int) (0 : Nat)) (List.cons (Value.int (0 : Int) (0 : Nat)) (List.cons (Value.int (0 : Int) (0 : Nat)) (List.cons (Value.int (0 : Int) (0 : Nat)) (List.cons (Value.int (0 : Int) (0 : Nat)) (List.cons (Value.ref (11 : Nat)) (List.cons (Value.bool Bool.false) (List.cons (Value.int (181 : Int) (0 : Nat)) (List.cons (Value.ref (12 : Nat)) (List.cons Value.none (List.cons Value.none (List.cons Value.none (List.cons Value.none (List.cons (Value.int (185 : Int) (0 : Nat)) (List.cons (Value.int (1 : Int) (0 : Nat)) (List.cons (Value.str (Str.ofString "/claim/cut.py") (186 : Nat)) List.nil)))))))))))))))))))) }
noncomputable def o_14 : Params → Obj := fun P => { cls := Value.type "frame", dict := @none Nat, slots := List.toArray (List.cons (some (Value.ref (13 : Nat))) (List.cons (some (Value.ref (3 : Nat))) (List.cons (some (Value.ref (3 : Nat))) (List.cons none (List.cons (some (Value.str (Str.ofString "__main__") (164 : Nat))) (List.cons none (List.cons (some (Value.ref (0 : Nat))) List.nil))))))) }
noncomputable def o_15 : Params → Obj := fun P => { cls := Value.type "tuple", dict := @none Nat, data := Data.seq (List.toArray (List.cons (Value.type "Exception") List.nil)) }
noncomputable def o_16 : Params → Obj := fun P => { cls := Value.type "builtin_function_or_method", dict := @none Nat, data := Data.fields (List.toArray (List.cons (Value.builtin "type.__prepare__") (List.cons (Value.type "type") List.nil))) }
noncomputable def o_17 : Params → Obj := fun P => { cls := Value.type "dict", dict := @none Nat, data := Data.dict (List.toArray (List.cons { hash := PyData.keyHash P (Str.ofString "__module__"), key := Value.str (Str.ofString "__module__") (196 : Nat), val := Value.str (Str.ofString "cpy313.ftplib") (187 : Nat) } (List.cons { hash := PyData.keyHash P (Str.ofString "__qualname__"), key := Value.str (Str.ofString "__qualname__") (198 : Nat), val := Value.str (Str.ofString "Error") (197 : Nat) } (List.cons { hash := PyData.keyHash P (Str.ofString "__firstlineno__"), key := Value.str (Str.ofString "__firstlineno__") (200 : Nat), val := Value.int (2 : Int) (199 : Nat) } (List.cons { hash := PyData.keyHash P (Str.ofString "__static_attributes__"), key := Value.str (Str.ofString "__static_attributes__") (201 : Nat), val := Value.ref (22 : Nat) } List.nil))))) (4 : Nat) }
noncomputable def o_18 : Params → Obj := fun P => { cls := Value.type "tuple", dict := @none Nat, data := Data.seq (List.toArray List.nil) }
noncomputable def o_19 : Params → Obj := fun P => { cls := Value.none, dict := @none Nat, data := Data.fields (List.toArray List.nil) }
noncomputable def o_20 : Params → Obj := fun P => { cls := Value.type "code", dict := @none Nat, data := Data.fields (List.toArray (List.cons (Value.str (Str.ofString "Error") (191 : Nat)) (List.cons (Value.str (Str.ofString "Error") (192 : Nat)) (List.cons (Value.str (Str.ofString "/claim/cut.py") (193 : Nat)) (List.cons (Value.int (2 : Int) (0 : Nat)) (List.cons (Value.int (0 : Int) (0 : Nat)) (List.cons (Value.int (0 : Int) (0 : Nat)) (List.cons (Value.int (0 : Int) (0 : Nat)) (List.cons (Value.int (0 : Int) (0 : Nat)) (List.cons (Value.ref (18 : Nat)) (List.cons (Value.bool Bool.false) (List.cons (Value.int (181 : Int) (0 : Nat)) (List.cons (Value.ref (19 : Nat)) (List.cons Value.none (List.cons Value.none (List.cons Value.none (List.cons Value.none (List.cons (Value.int (194 : Int) (0 : Nat)) (List.cons (Value.int (2 : Int) (0 : Nat)) (List.cons (Value.str (Str.ofString "/claim/cut.py") (195 : Nat)) List.nil)))))))))))))))))))) }
noncomputable def o_21 : Params → Obj := fun P => { cls := Value.type "frame", dict := @none Nat, slots := List.toArray (List.cons (some (Value.ref (20 : Nat))) (List.cons (some (Value.ref (3 : Nat))) (List.cons (some (Value.ref (17 : Nat))) (List.cons none (List.cons (some (Value.str (Str.ofString "cpy313.ftplib") (187 : Nat))) (List.cons none (List.cons (some (Value.ref (0 : Nat))) List.nil))))))) }
noncomputable def o_22 : Params → Obj := fun P => { cls := Value.type "tuple", dict := @none Nat, data := Data.seq (List.toArray List.nil) }
noncomputable def o_23 : Params → Obj := fun P => { cls := Value.type "dict", dict := @none Nat, data := Data.dict (List.toArray (List.cons { hash := PyData.keyHash P (Str.ofString "__module__"), key := Value.str (Str.ofString "__module__") (196 : Nat), val := Value.str (Str.ofString "cpy313.ftplib") (187 : Nat) } (List.cons { hash := PyData.keyHash P (Str.ofString "__firstlineno__"), key := Value.str (Str.ofString "__firstlineno__") (200 : Nat), val := Value.int (2 : Int) (199 : Nat) } (List.cons { hash := PyData.keyHash P (Str.ofString "__static_attributes__"), key := Value.str (Str.ofString "__static_attributes__") (201 : Nat), val := Value.ref (22 : Nat) } (List.cons { hash := PyData.keyHash P (Str.ofString "__weakref__"), key := Value.str (Str.ofString "__weakref__") (203 : Nat), val := Value.ref (25 : Nat) } (List.cons { hash := PyData.keyHash P (Str.ofString "__doc__"), key := Value.str (Str.ofString "__doc__") (204 : Nat), val := Value.none } List.nil)))))) (3 : Nat) }
noncomputable def o_24 : Params → Obj := fun P => { cls := Value.type "type", dict := @none Nat, data := Data.cls { name := Str.ofString "Error", bases := List.cons (Value.type "Exception") List.nil, mro := List.cons (Value.ref (24 : Nat)) (List.cons (Value.type "Exception") (List.cons (Value.type "BaseException") (List.cons (Value.type "object") List.nil))), ns := (23 : Nat), qualname := Str.ofString "Error", subclasses := List.cons (Value.ref (37 : Nat)) List.nil }, slots := List.toArray (List.cons (some (Value.ref (15 : Nat))) (List.cons none (List.cons (some (Value.str (Str.ofString "Error") (189 : Nat))) (List.cons (some (Value.str (Str.ofString "Error") (197 : Nat))) (List.cons (some (Value.builtin "Exception.__new__")) (List.cons (some (Value.bool Bool.true)) List.nil)))))) }
noncomputable def o_25 : Params → Obj := fun P => { cls := Value.type "getset_descriptor", dict := @none Nat, data := Data.fields (List.toArray (List.cons (Value.str (Str.ofString "__weakref__") (202 : Nat)) (List.cons (Value.ref (24 : Nat)) (List.cons (Value.builtin "ExceptionGroup.__weakref__") (List.cons Value.none List.nil))))) }
noncomputable def o_26 : Params → Obj := fun P => { cls := Value.type "super", dict := @none Nat, data := Data.fields (List.toArray (List.cons (Value.ref (24 : Nat)) (List.cons (Value.ref (24 : Nat)) (List.cons (Value.ref (24 : Nat)) List.nil)))) }
noncomputable def o_27 : Params → Obj := fun P => { cls := Value.type "builtin_function_or_method", dict := @none Nat, data := Data.fields (List.toArray (List.cons (Value.builtin "object.__init_subclass__") (List.cons (Value.ref (24 : Nat)) List.nil))) }
noncomputable def o_28 : Params → Obj := fun P => { cls := Value.type "tuple", dict := @none Nat, data := Data.seq (List.toArray (List.cons (Value.ref (24 : Nat)) List.nil)) }
noncomputable def o_29 : Params → Obj := fun P => { cls := Value.type "builtin_function_or_method", dict := @none Nat, data := Data.fields (List.toArray (List.cons (Value.builtin "type.__prepare__") (List.cons (Value.type "type") List.nil))) }
noncomputable def o_30 : Params → Obj := fun P => { cls := Value.type "dict", dict := @none Nat, data := Data.dict (List.toArray (List.cons { hash := PyData.keyHash P (Str.ofString "__module__"), key := Value.str (Str.ofString "__module__") (216 : Nat), val := Value.str (Str.ofString "cpy313.ftplib") (187 : Nat) } (List.cons { hash := PyData.keyHash P (Str.ofString "__qualname__"), key := Value.str (Str.ofString "__qualname__") (218 : Nat), val := Value.str (Str.ofString "error_reply") (217 : Nat) } (List.cons { hash := PyData.keyHash P (Str.ofString "__firstlineno__"), key := Value.str (Str.ofString "__firstlineno__") (220 : Nat), val := Value.int (4 : Int) (219 : Nat) } (List.cons { hash := PyData.keyHash P (Str.ofString "__static_attributes__"), key := Value.str (Str.ofString "__static_attributes__") (221 : Nat), val := Value.ref (35 : Nat) } List.nil))))) (4 : Nat) }
noncomputable def o_31 : Params → Obj := fun P => { cls := Value.type "tuple", dict := @none Nat, data := Data.seq (List.toArray List.nil) }
noncomputable def o_32 : Params → Obj := fun P => { cls := Value.none, dict := @none Nat, data := Data.fields (List.toArray List.nil) }
noncomputable def o_33 : Params → Obj := fun P => { cls := Value.type "code", dict := @none Nat, data := Data.fields (List.toArray (List.cons (Value.str (Str.ofString "error_reply") (211 : Nat)) (List.cons (Value.str (Str.ofString "error_reply") (212 : Nat)) (List.cons (Value.str (Str.ofString "/claim/cut.py") (213 : Nat)) (List.cons (Value.int (4 : Int) (0 : Nat)) (List.cons (Value.int (0 : Int) (0 : Nat)) (List.cons (Value.int (0 : Int) (0 : Nat)) (List.cons (Value.int (0 : Int) (0 : Nat)) (List.cons (Value.int (0 : Int) (0 : Nat)) (List.cons (Value.ref (31 : Nat)) (List.cons (Value.bool Bool.false) (List.cons (Value.int (181 : Int) (0 : Nat)) (List.cons (Value.ref (32 : Nat)) (List.cons Value.none (List.cons Value.none (List.cons Value.none (List.cons Value.none (List.cons (Value.int (214 : Int) (0 : Nat)) (List.cons (Value.int (4 : Int) (0 : Nat)) (List.cons (Value.str (Str.ofString "/claim/cut.py") (215 : Nat)) List.nil)))))))))))))))))))) }
noncomputable def o_34 : Params → Obj := fun P => { cls := Value.type "frame", dict := @none Nat, slots := List.toArray (List.cons (some (Value.ref (33 : Nat))) (List.cons (some (Value.ref (3 : Nat))) (List.cons (some (Value.ref (30 : Nat))) (List.cons none (List.cons (some (Value.str (Str.ofString "cpy313.ftplib") (187 : Nat))) (List.cons none (List.cons (some (Value.ref (0 : Nat))) List.nil))))))) }
noncomputable def o_35 : Params → Obj := fun P => { cls := Value.type "tuple", dict := @none Nat, data := Data.seq (List.toArray List.nil) }
noncomputable def o_36 : Params → Obj := fun P => { cls := Value.type "dict", dict := @none Nat, data := Data.dict (List.toArray (List.cons { hash := PyData.keyHash P (Str.ofString "__module__"), key := Value.str (Str.ofString "__module__") (216 : Nat), val := Value.str (Str.ofString "cpy313.ftplib") (187 : Nat) } (List.cons { hash := PyData.keyHash P (Str.ofString "__firstlineno__"), key := Value.str (Str.ofString "__firstlineno__") (220 : Nat), val := Value.int (4 : Int) (219 : Nat) } (List.cons { hash := PyData.keyHash P (Str.ofString "__static_attributes__"), key := Value.str (Str.ofString "__static_attributes__") (221 : Nat), val := Value.ref (35 : Nat) } (List.cons { hash := PyData.keyHash P (Str.ofString "__doc__"), key := Value.str (Str.ofString "__doc__") (222 : Nat), val := Value.none } List.nil))))) (2 : Nat) }
noncomputable def o_37 : Params → Obj := fun P => { cls := Value.type "type", dict := @none Nat, data := Data.cls { name := Str.ofString "error_reply", bases := List.cons (Value.ref (24 : Nat)) List.nil, mro := List.cons (Value.ref (37 : Nat)) (List.cons (Value.ref (24 : Nat)) (List.cons (Value.type "Exception") (List.cons (Value.type "BaseException") (List.cons (Value.type "object") List.nil)))), ns := (36 : Nat), qualname := Str.ofString "error_reply" }, slots := List.toArray (List.cons (some (Value.ref (28 : Nat))) (List.cons none (List.cons (some (Value.str (Str.ofString "error_reply") (209 : Nat))) (List.cons (some (Value.str (Str.ofString "error_reply") (217 : Nat))) (List.cons (some (Value.builtin "Exception.__new__")) (List.cons (some (Value.bool Bool.true)) List.nil)))))) }
noncomputable def o_38 : Params → Obj := fun P => { cls := Value.type "super", dict := @none Nat, data := Data.fields (List.toArray (List.cons (Value.ref (37 : Nat)) (List.cons (Value.ref (37 : Nat)) (List.cons (Value.ref (37 : Nat)) List.nil)))) }
noncomputable def o_39 : Params → Obj := fun P => { cls := Value.type "builtin_function_or_method", dict := @none Nat, data := Data.fields (List.toArray (List.cons (Value.builtin "object.__init_subclass__") (List.cons (Value.ref (37 : Nat)) List.nil))) }
noncomputable def o_40 : Params → Obj := fun P => { cls := Value.type "tuple", dict := @none Nat, data := Data.seq (List.toArray List.nil) }
noncomputable def o_41 : Params → Obj := fun P => { cls := Value.none, dict := @none Nat, data := Data.fields (List.toArray List.nil) }
noncomputable def o_42 : Params → Obj := fun P => { cls := Value.type "tuple", dict := @none Nat, data := Data.seq (List.toArray (List.cons (Value.str (Str.ofString "resp") (228 : Nat)) (List.cons (Value.str (Str.ofString "dirname") (229 : Nat)) (List.cons (Value.str (Str.ofString "i") (230 : Nat)) (List.cons (Value.str (Str.ofString "n") (231 : Nat)) (List.cons (Value.str (Str.ofString "c") (232 : Nat)) List.nil)))))) }
noncomputable def o_43 : Params → Obj := fun P => { cls := Value.type "tuple", dict := @none Nat, data := Data.seq (List.toArray List.nil) }
noncomputable def o_44 : Params → Obj := by
  refine' (?f : (n : Str) → (a : Arguments) → (b : List Stmt) → (c : List PySem.Expr) → (d : Option PySem.Expr) → (e : List TypeParam) → (g : Scope) → (t : Option Scope) → (j : Str) → (k : Pos) → Cell 3 n a b c d e g t j k → Params → Obj) _ _ _ _ _ _ _ _ _ _ ?h
  case h => exact rfl
  case f => exact fun n a b _ _ _ g _ _ _ _ P => { cls := Value.none, dict := @none Nat, data := Data.func { name := n, qualname := n, params := a, body := FuncBody.stmts b, scope := g, globals := (0 : Nat), closure := @List.nil (Str × Nat), defaults := Value.none, kwdefaults := Value.none, annotations := @none Nat, builtins := (0 : Nat) } }
noncomputable def o_45 : Params → Obj := fun P => { cls := Value.type "code", dict := @none Nat, data := Data.fields (List.toArray (List.cons (Value.str (Str.ofString "parse257") (225 : Nat)) (List.cons (Value.str (Str.ofString "parse257") (226 : Nat)) (List.cons (Value.str (Str.ofString "/claim/cut.py") (227 : Nat)) (List.cons (Value.int (6 : Int) (0 : Nat)) (List.cons (Value.int (1 : Int) (0 : Nat)) (List.cons (Value.int (0 : Int) (0 : Nat)) (List.cons (Value.int (0 : Int) (0 : Nat)) (List.cons (Value.int (3 : Int) (0 : Nat)) (List.cons (Value.ref (40 : Nat)) (List.cons (Value.bool Bool.true) (List.cons (Value.int (181 : Int) (0 : Nat)) (List.cons (Value.ref (41 : Nat)) (List.cons Value.none (List.cons (Value.ref (42 : Nat)) (List.cons (Value.ref (43 : Nat)) (List.cons (Value.ref (44 : Nat)) (List.cons (Value.int (233 : Int) (0 : Nat)) (List.cons (Value.int (6 : Int) (0 : Nat)) (List.cons (Value.str (Str.ofString "/claim/cut.py") (234 : Nat)) List.nil)))))))))))))))))))) }
noncomputable def o_46 : Params → Obj := by
  refine' (?f : (n : Str) → (a : Arguments) → (b : List Stmt) → (c : List PySem.Expr) → (d : Option PySem.Expr) → (e : List TypeParam) → (g : Scope) → (t : Option Scope) → (j : Str) → (k : Pos) → Cell 3 n a b c d e g t j k → Params → Obj) _ _ _ _ _ _ _ _ _ _ ?h
  case h => exact rfl
  case f => exact fun n a b _ _ _ g _ _ _ _ P => { cls := Value.type "function", dict := @none Nat, data := Data.func { name := n, qualname := n, params := a, body := FuncBody.stmts b, scope := g, globals := (3 : Nat), closure := @List.nil (Str × Nat), defaults := Value.none, kwdefaults := Value.none, annotations := @none Nat, builtins := (0 : Nat), pyModule := Value.str (Str.ofString "cpy313.ftplib") (187 : Nat), code := Value.ref (45 : Nat) } }
noncomputable def o_47 : Params → Obj := fun P => { cls := Value.type "tuple", dict := @none Nat, data := Data.seq (List.toArray List.nil) }
noncomputable def o_48 : Params → Obj := fun P => { cls := Value.none, dict := @none Nat, data := Data.fields (List.toArray List.nil) }
noncomputable def o_49 : Params → Obj := fun P => { cls := Value.type "tuple", dict := @none Nat, data := Data.seq (List.toArray (List.cons (Value.str (Str.ofString "mode") (241 : Nat)) List.nil)) }
noncomputable def o_50 : Params → Obj := fun P => { cls := Value.type "tuple", dict := @none Nat, data := Data.seq (List.toArray List.nil) }
noncomputable def o_51 : Params → Obj := by
  refine' (?f : (n : Str) → (a : Arguments) → (b : List Stmt) → (c : List PySem.Expr) → (d : Option PySem.Expr) → (e : List TypeParam) → (g : Scope) → (t : Option Scope) → (j : Str) → (k : Pos) → Cell 5 n a b c d e g t j k → Params → Obj) _ _ _ _ _ _ _ _ _ _ ?h
  case h => exact rfl
  case f => exact fun n a b _ _ _ g _ _ _ _ P => { cls := Value.none, dict := @none Nat, data := Data.func { name := n, qualname := n, params := a, body := FuncBody.stmts b, scope := g, globals := (0 : Nat), closure := @List.nil (Str × Nat), defaults := Value.none, kwdefaults := Value.none, annotations := @none Nat, builtins := (0 : Nat) } }
noncomputable def o_52 : Params → Obj := fun P => { cls := Value.type "code", dict := @none Nat, data := Data.fields (List.toArray (List.cons (Value.str (Str.ofString "S_IFMT") (238 : Nat)) (List.cons (Value.str (Str.ofString "S_IFMT") (239 : Nat)) (List.cons (Value.str (Str.ofString "/claim/cut.py") (240 : Nat)) (List.cons (Value.int (24 : Int) (0 : Nat)) (List.cons (Value.int (1 : Int) (0 : Nat)) (List.cons (Value.int (0 : Int) (0 : Nat)) (List.cons (Value.int (0 : Int) (0 : Nat)) (List.cons (Value.int (3 : Int) (0 : Nat)) (List.cons (Value.ref (47 : Nat)) (List.cons (Value.bool Bool.true) (List.cons (Value.int (181 : Int) (0 : Nat)) (List.cons (Value.ref (48 : Nat)) (List.cons Value.none (List.cons (Value.ref (49 : Nat)) (List.cons (Value.ref (50 : Nat)) (List.cons (Value.ref (51 : Nat)) (List.cons (Value.int (242 : Int) (0 : Nat)) (List.cons (Value.int (24 : Int) (0 : Nat)) (List.cons (Value.str (Str.ofString "/claim/cut.py") (243 : Nat)) List.nil)))))))))))))))))))) }
noncomputable def o_53 : Params → Obj := by
  refine' (?f : (n : Str) → (a : Arguments) → (b : List Stmt) → (c : List PySem.Expr) → (d : Option PySem.Expr) → (e : List TypeParam) → (g : Scope) → (t : Option Scope) → (j : Str) → (k : Pos) → Cell 5 n a b c d e g t j k → Params → Obj) _ _ _ _ _ _ _ _ _ _ ?h
  case h => exact rfl
  case f => exact fun n a b _ _ _ g _ _ _ _ P => { cls := Value.type "function", dict := @none Nat, data := Data.func { name := n, qualname := n, params := a, body := FuncBody.stmts b, scope := g, globals := (3 : Nat), closure := @List.nil (Str × Nat), defaults := Value.none, kwdefaults := Value.none, annotations := @none Nat, builtins := (0 : Nat), pyModule := Value.str (Str.ofString "cpy313.stat") (236 : Nat), code := Value.ref (52 : Nat) } }
noncomputable def o_54 : Params → Obj := fun P => { cls := Value.type "tuple", dict := @none Nat, data := Data.seq (List.toArray (List.cons (Value.int (40960 : Int) (255 : Nat)) (List.cons (Value.str (Str.ofString "l") (283 : Nat)) List.nil))) }
noncomputable def o_55 : Params → Obj := fun P => { cls := Value.type "tuple", dict := @none Nat, data := Data.seq (List.toArray (List.cons (Value.int (49152 : Int) (257 : Nat)) (List.cons (Value.str (Str.ofString "s") (284 : Nat)) List.nil))) }
noncomputable def o_56 : Params → Obj := fun P => { cls := Value.type "tuple", dict := @none Nat, data := Data.seq (List.toArray (List.cons (Value.int (32768 : Int) (251 : Nat)) (List.cons (Value.str (Str.ofString "-") (285 : Nat)) List.nil))) }
noncomputable def o_57 : Params → Obj := fun P => { cls := Value.type "tuple", dict := @none Nat, data := Data.seq (List.toArray (List.cons (Value.int (24576 : Int) (249 : Nat)) (List.cons (Value.str (Str.ofString "b") (286 : Nat)) List.nil))) }
noncomputable def o_58 : Params → Obj := fun P => { cls := Value.type "tuple", dict := @none Nat, data := Data.seq (List.toArray (List.cons (Value.int (16384 : Int) (245 : Nat)) (List.cons (Value.str (Str.ofString "d") (287 : Nat)) List.nil))) }
noncomputable def o_59 : Params → Obj := fun P => { cls := Value.type "tuple", dict := @none Nat, data := Data.seq (List.toArray (List.cons (Value.int (8192 : Int) (247 : Nat)) (List.cons (Value.str (Str.ofString "c") (288 : Nat)) List.nil))) }
noncomputable def o_60 : Params → Obj := fun P => { cls := Value.type "tuple", dict := @none Nat, data := Data.seq (List.toArray (List.cons (Value.int (4096 : Int) (253 : Nat)) (List.cons (Value.str (Str.ofString "p") (289 : Nat)) List.nil))) }
noncomputable def o_61 : Params → Obj := fun P => { cls := Value.type "tuple", dict := @none Nat, data := Data.seq (List.toArray (List.cons (Value.ref (54 : Nat)) (List.cons (Value.ref (55 : Nat)) (List.cons (Value.ref (56 : Nat)) (List.cons (Value.ref (57 : Nat)) (List.cons (Value.ref (58 : Nat)) (List.cons (Value.ref (59 : Nat)) (List.cons (Value.ref (60 : Nat)) List.nil)))))))) }
noncomputable def o_62 : Params → Obj := fun P => { cls := Value.type "tuple", dict := @none Nat, data := Data.seq (List.toArray (List.cons (Value.int (256 : Int) (265 : Nat)) (List.cons (Value.str (Str.ofString "r") (290 : Nat)) List.nil))) }
noncomputable def o_63 : Params → Obj := fun P => { cls := Value.type "tuple", dict := @none Nat, data := Data.seq (List.toArray (List.cons (Value.ref (62 : Nat)) List.nil)) }
noncomputable def o_64 : Params → Obj := fun P => { cls := Value.type "tuple", dict := @none Nat, data := Data.seq (List.toArray (List.cons (Value.int (128 : Int) (267 : Nat)) (List.cons (Value.str (Str.ofString "w") (291 : Nat)) List.nil))) }
noncomputable def o_65 : Params → Obj := fun P => { cls := Value.type "tuple", dict := @none Nat, data := Data.seq (List.toArray (List.cons (Value.ref (64 : Nat)) List.nil)) }
noncomputable def o_66 : Params → Obj := fun P => { cls := Value.type "tuple", dict := @none Nat, data := Data.seq (List.toArray (List.cons (Value.int (2112 : Int) (292 : Nat)) (List.cons (Value.str (Str.ofString "s") (293 : Nat)) List.nil))) }
noncomputable def o_67 : Params → Obj := fun P => { cls := Value.type "tuple", dict := @none Nat, data := Data.seq (List.toArray (List.cons (Value.int (2048 : Int) (259 : Nat)) (List.cons (Value.str (Str.ofString "S") (294 : Nat)) List.nil))) }
noncomputable def o_68 : Params → Obj := fun P => { cls := Value.type "tuple", dict := @none Nat, data := Data.seq (List.toArray (List.cons (Value.int (64 : Int) (269 : Nat)) (List.cons (Value.str (Str.ofString "x") (295 : Nat)) List.nil))) }
noncomputable def o_69 : Params → Obj := fun P => { cls := Value.type "tuple", dict := @none Nat, data := Data.seq (List.toArray (List.cons (Value.ref (66 : Nat)) (List.cons (Value.ref (67 : Nat)) (List.cons (Value.ref (68 : Nat)) List.nil)))) }
noncomputable def o_70 : Params → Obj := fun P => { cls := Value.type "tuple", dict := @none Nat, data := Data.seq (List.toArray (List.cons (Value.int (32 : Int) (271 : Nat)) (List.cons (Value.str (Str.ofString "r") (296 : Nat)) List.nil))) }
noncomputable def o_71 : Params → Obj := fun P => { cls := Value.type "tuple", dict := @none Nat, data := Data.seq (List.toArray (List.cons (Value.ref (70 : Nat)) List.nil)) }
noncomputable def o_72 : Params → Obj := fun P => { cls := Value.type "tuple", dict := @none Nat, data := Data.seq (List.toArray (List.cons (Value.int (16 : Int) (273 : Nat)) (List.cons (Value.str (Str.ofString "w") (297 : Nat)) List.nil))) }
noncomputable def o_73 : Params → Obj := fun P => { cls := Value.type "tuple", dict := @none Nat, data := Data.seq (List.toArray (List.cons (Value.ref (72 : Nat)) List.nil)) }
noncomputable def o_74 : Params → Obj := fun P => { cls := Value.type "tuple", dict := @none Nat, data := Data.seq (List.toArray (List.cons (Value.int (1032 : Int) (298 : Nat)) (List.cons (Value.str (Str.ofString "s") (299 : Nat)) List.nil))) }
noncomputable def o_75 : Params → Obj := fun P => { cls := Value.type "tuple", dict := @none Nat, data := Data.seq (List.toArray (List.cons (Value.int (1024 : Int) (261 : Nat)) (List.cons (Value.str (Str.ofString "S") (300 : Nat)) List.nil))) }
noncomputable def o_76 : Params → Obj := fun P => { cls := Value.type "tuple", dict := @none Nat, data := Data.seq (List.toArray (List.cons (Value.int (8 : Int) (275 : Nat)) (List.cons (Value.str (Str.ofString "x") (301 : Nat)) List.nil))) }
noncomputable def o_77 : Params → Obj := fun P => { cls := Value.type "tuple", dict := @none Nat, data := Data.seq (List.toArray (List.cons (Value.ref (74 : Nat)) (List.cons (Value.ref (75 : Nat)) (List.cons (Value.ref (76 : Nat)) List.nil)))) }
noncomputable def o_78 : Params → Obj := fun P => { cls := Value.type "tuple", dict := @none Nat, data := Data.seq (List.toArray (List.cons (Value.int (4 : Int) (277 : Nat)) (List.cons (Value.str (Str.ofString "r") (302 : Nat)) List.nil))) }
noncomputable def o_79 : Params → Obj := fun P => { cls := Value.type "tuple", dict := @none Nat, data := Data.seq (List.toArray (List.cons (Value.ref (78 : Nat)) List.nil)) }
noncomputable def o_80 : Params → Obj := fun P => { cls := Value.type "tuple", dict := @none Nat, data := Data.seq (List.toArray (List.cons (Value.int (2 : Int) (279 : Nat)) (List.cons (Value.str (Str.ofString "w") (303 : Nat)) List.nil))) }
noncomputable def o_81 : Params → Obj := fun P => { cls := Value.type "tuple", dict := @none Nat, data := Data.seq (List.toArray (List.cons (Value.ref (80 : Nat)) List.nil)) }
noncomputable def o_82 : Params → Obj := fun P => { cls := Value.type "tuple", dict := @none Nat, data := Data.seq (List.toArray (List.cons (Value.int (513 : Int) (304 : Nat)) (List.cons (Value.str (Str.ofString "t") (305 : Nat)) List.nil))) }
noncomputable def o_83 : Params → Obj := fun P => { cls := Value.type "tuple", dict := @none Nat, data := Data.seq (List.toArray (List.cons (Value.int (512 : Int) (263 : Nat)) (List.cons (Value.str (Str.ofString "T") (306 : Nat)) List.nil))) }
noncomputable def o_84 : Params → Obj := fun P => { cls := Value.type "tuple", dict := @none Nat, data := Data.seq (List.toArray (List.cons (Value.int (1 : Int) (281 : Nat)) (List.cons (Value.str (Str.ofString "x") (307 : Nat)) List.nil))) }
noncomputable def o_85 : Params → Obj := fun P => { cls := Value.type "tuple", dict := @none Nat, data := Data.seq (List.toArray (List.cons (Value.ref (82 : Nat)) (List.cons (Value.ref (83 : Nat)) (List.cons (Value.ref (84 : Nat)) List.nil)))) }
noncomputable def o_86 : Params → Obj := fun P => { cls := Value.type "tuple", dict := @none Nat, data := Data.seq (List.toArray (List.cons (Value.ref (61 : Nat)) (List.cons (Value.ref (63 : Nat)) (List.cons (Value.ref (65 : Nat)) (List.cons (Value.ref (69 : Nat)) (List.cons (Value.ref (71 : Nat)) (List.cons (Value.ref (73 : Nat)) (List.cons (Value.ref (77 : Nat)) (List.cons (Value.ref (79 : Nat)) (List.cons (Value.ref (81 : Nat)) (List.cons (Value.ref (85 : Nat)) List.nil))))))))))) }
noncomputable def o_87 : Params → Obj := fun P => { cls := Value.type "tuple", dict := @none Nat, data := Data.seq (List.toArray List.nil) }
noncomputable def o_88 : Params → Obj := fun P => { cls := Value.none, dict := @none Nat, data := Data.fields (List.toArray List.nil) }
noncomputable def o_89 : Params → Obj := fun P => { cls := Value.type "tuple", dict := @none Nat, data := Data.seq (List.toArray (List.cons (Value.str (Str.ofString "mode") (312 : Nat)) (List.cons (Value.str (Str.ofString "perm") (313 : Nat)) (List.cons (Value.str (Str.ofString "index") (314 : Nat)) (List.cons (Value.str (Str.ofString "table") (315 : Nat)) (List.cons (Value.str (Str.ofString "bit") (316 : Nat)) (List.cons (Value.str (Str.ofString "char") (317 : Nat)) List.nil))))))) }
noncomputable def o_90 : Params → Obj := fun P => { cls := Value.type "tuple", dict := @none Nat, data := Data.seq (List.toArray List.nil) }
noncomputable def o_91 : Params → Obj := by
  refine' (?f : (n : Str) → (a : Arguments) → (b : List Stmt) → (c : List PySem.Expr) → (d : Option PySem.Expr) → (e : List TypeParam) → (g : Scope) → (t : Option Scope) → (j : Str) → (k : Pos) → Cell 26 n a b c d e g t j k → Params → Obj) _ _ _ _ _ _ _ _ _ _ ?h
  case h => exact rfl
  case f => exact fun n a b _ _ _ g _ _ _ _ P => { cls := Value.none, dict := @none Nat, data := Data.func { name := n, qualname := n, params := a, body := FuncBody.stmts b, scope := g, globals := (0 : Nat), closure := @List.nil (Str × Nat), defaults := Value.none, kwdefaults := Value.none, annotations := @none Nat, builtins := (0 : Nat) } }
noncomputable def o_92 : Params → Obj := fun P => { cls := Value.type "code", dict := @none Nat, data := Data.fields (List.toArray (List.cons (Value.str (Str.ofString "filemode") (309 : Nat)) (List.cons (Value.str (Str.ofString "filemode") (310 : Nat)) (List.cons (Value.str (Str.ofString "/claim/cut.py") (311 : Nat)) (List.cons (Value.int (46 : Int) (0 : Nat)) (List.cons (Value.int (1 : Int) (0 : Nat)) (List.cons (Value.int (0 : Int) (0 : Nat)) (List.cons (Value.int (0 : Int) (0 : Nat)) (List.cons (Value.int (3 : Int) (0 : Nat)) (List.cons (Value.ref (87 : Nat)) (List.cons (Value.bool Bool.true) (List.cons (Value.int (181 : Int) (0 : Nat)) (List.cons (Value.ref (88 : Nat)) (List.cons Value.none (List.cons (Value.ref (89 : Nat)) (List.cons (Value.ref (90 : Nat)) (List.cons (Value.ref (91 : Nat)) (List.cons (Value.int (318 : Int) (0 : Nat)) (List.cons (Value.int (46 : Int) (0 : Nat)) (List.cons (Value.str (Str.ofString "/claim/cut.py") (319 : Nat)) List.nil)))))))))))))))))))) }
noncomputable def o_93 : Params → Obj := by
  refine' (?f : (n : Str) → (a : Arguments) → (b : List Stmt) → (c : List PySem.Expr) → (d : Option PySem.Expr) → (e : List TypeParam) → (g : Scope) → (t : Option Scope) → (j : Str) → (k : Pos) → Cell 26 n a b c d e g t j k → Params → Obj) _ _ _ _ _ _ _ _ _ _ ?h
  case h => exact rfl
  case f => exact fun n a b _ _ _ g _ _ _ _ P => { cls := Value.type "function", dict := @none Nat, data := Data.func { name := n, qualname := n, params := a, body := FuncBody.stmts b, scope := g, globals := (3 : Nat), closure := @List.nil (Str × Nat), defaults := Value.none, kwdefaults := Value.none, annotations := @none Nat, builtins := (0 : Nat), pyModule := Value.str (Str.ofString "cpy313.stat") (236 : Nat), code := Value.ref (92 : Nat) } }
noncomputable def o_94 : Params → Obj := fun P => { cls := Value.type "tuple", dict := @none Nat, data := Data.seq (List.toArray List.nil) }
noncomputable def o_95 : Params → Obj := fun P => { cls := Value.none, dict := @none Nat, data := Data.fields (List.toArray List.nil) }
noncomputable def o_96 : Params → Obj := fun P => { cls := Value.type "tuple", dict := @none Nat, data := Data.seq (List.toArray (List.cons (Value.str (Str.ofString "expected") (326 : Nat)) (List.cons (Value.str (Str.ofString "actual") (327 : Nat)) (List.cons (Value.str (Str.ofString "i") (328 : Nat)) (List.cons (Value.str (Str.ofString "j") (329 : Nat)) (List.cons (Value.str (Str.ofString "missing") (330 : Nat)) (List.cons (Value.str (Str.ofString "unexpected") (331 : Nat)) (List.cons (Value.str (Str.ofString "e") (332 : Nat)) (List.cons (Value.str (Str.ofString "a") (333 : Nat)) List.nil))))))))) }
noncomputable def o_97 : Params → Obj := fun P => { cls := Value.type "tuple", dict := @none Nat, data := Data.seq (List.toArray List.nil) }
noncomputable def o_98 : Params → Obj := by
  refine' (?f : (n : Str) → (a : Arguments) → (b : List Stmt) → (c : List PySem.Expr) → (d : Option PySem.Expr) → (e : List TypeParam) → (g : Scope) → (t : Option Scope) → (j : Str) → (k : Pos) → Cell 28 n a b c d e g t j k → Params → Obj) _ _ _ _ _ _ _ _ _ _ ?h
  case h => exact rfl
  case f => exact fun n a b _ _ _ g _ _ _ _ P => { cls := Value.none, dict := @none Nat, data := Data.func { name := n, qualname := n, params := a, body := FuncBody.stmts b, scope := g, globals := (0 : Nat), closure := @List.nil (Str × Nat), defaults := Value.none, kwdefaults := Value.none, annotations := @none Nat, builtins := (0 : Nat) } }
noncomputable def o_99 : Params → Obj := fun P => { cls := Value.type "code", dict := @none Nat, data := Data.fields (List.toArray (List.cons (Value.str (Str.ofString "sorted_list_difference") (323 : Nat)) (List.cons (Value.str (Str.ofString "sorted_list_difference") (324 : Nat)) (List.cons (Value.str (Str.ofString "/claim/cut.py") (325 : Nat)) (List.cons (Value.int (64 : Int) (0 : Nat)) (List.cons (Value.int (2 : Int) (0 : Nat)) (List.cons (Value.int (0 : Int) (0 : Nat)) (List.cons (Value.int (0 : Int) (0 : Nat)) (List.cons (Value.int (3 : Int) (0 : Nat)) (List.cons (Value.ref (94 : Nat)) (List.cons (Value.bool Bool.true) (List.cons (Value.int (181 : Int) (0 : Nat)) (List.cons (Value.ref (95 : Nat)) (List.cons Value.none (List.cons (Value.ref (96 : Nat)) (List.cons (Value.ref (97 : Nat)) (List.cons (Value.ref (98 : Nat)) (List.cons (Value.int (334 : Int) (0 : Nat)) (List.cons (Value.int (64 : Int) (0 : Nat)) (List.cons (Value.str (Str.ofString "/claim/cut.py") (335 : Nat)) List.nil)))))))))))))))))))) }
noncomputable def o_100 : Params → Obj := by
  refine' (?f : (n : Str) → (a : Arguments) → (b : List Stmt) → (c : List PySem.Expr) → (d : Option PySem.Expr) → (e : List TypeParam) → (g : Scope) → (t : Option Scope) → (j : Str) → (k : Pos) → Cell 28 n a b c d e g t j k → Params → Obj) _ _ _ _ _ _ _ _ _ _ ?h
  case h => exact rfl
  case f => exact fun n a b _ _ _ g _ _ _ _ P => { cls := Value.type "function", dict := @none Nat, data := Data.func { name := n, qualname := n, params := a, body := FuncBody.stmts b, scope := g, globals := (3 : Nat), closure := @List.nil (Str × Nat), defaults := Value.none, kwdefaults := Value.none, annotations := @none Nat, builtins := (0 : Nat), pyModule := Value.str (Str.ofString "cpy313.unittest.util") (321 : Nat), code := Value.ref (99 : Nat) } }
noncomputable def o_101 : Params → Obj := fun P => { cls := Value.type "tuple", dict := @none Nat, data := Data.seq (List.toArray List.nil) }
noncomputable def o_102 : Params → Obj := fun P => { cls := Value.none, dict := @none Nat, data := Data.fields (List.toArray List.nil) }
noncomputable def o_103 : Params → Obj := fun P => { cls := Value.type "tuple", dict := @none Nat, data := Data.seq (List.toArray (List.cons (Value.str (Str.ofString "x") (340 : Nat)) (List.cons (Value.str (Str.ofString "y") (341 : Nat)) List.nil))) }
noncomputable def o_104 : Params → Obj := fun P => { cls := Value.type "tuple", dict := @none Nat, data := Data.seq (List.toArray List.nil) }
noncomputable def o_105 : Params → Obj := by
  refine' (?f : (n : Str) → (a : Arguments) → (b : List Stmt) → (c : List PySem.Expr) → (d : Option PySem.Expr) → (e : List TypeParam) → (g : Scope) → (t : Option Scope) → (j : Str) → (k : Pos) → Cell 29 n a b c d e g t j k → Params → Obj) _ _ _ _ _ _ _ _ _ _ ?h
  case h => exact rfl
  case f => exact fun n a b _ _ _ g _ _ _ _ P => { cls := Value.none, dict := @none Nat, data := Data.func { name := n, qualname := n, params := a, body := FuncBody.stmts b, scope := g, globals := (0 : Nat), closure := @List.nil (Str × Nat), defaults := Value.none, kwdefaults := Value.none, annotations := @none Nat, builtins := (0 : Nat) } }
noncomputable def o_106 : Params → Obj := fun P => { cls := Value.type "code", dict := @none Nat, data := Data.fields (List.toArray (List.cons (Value.str (Str.ofString "three_way_cmp") (337 : Nat)) (List.cons (Value.str (Str.ofString "three_way_cmp") (338 : Nat)) (List.cons (Value.str (Str.ofString "/claim/cut.py") (339 : Nat)) (List.cons (Value.int (96 : Int) (0 : Nat)) (List.cons (Value.int (2 : Int) (0 : Nat)) (List.cons (Value.int (0 : Int) (0 : Nat)) (List.cons (Value.int (0 : Int) (0 : Nat)) (List.cons (Value.int (3 : Int) (0 : Nat)) (List.cons (Value.ref (101 : Nat)) (List.cons (Value.bool Bool.true) (List.cons (Value.int (181 : Int) (0 : Nat)) (List.cons (Value.ref (102 : Nat)) (List.cons Value.none (List.cons (Value.ref (103 : Nat)) (List.cons (Value.ref (104 : Nat)) (List.cons (Value.ref (105 : Nat)) (List.cons (Value.int (342 : Int) (0 : Nat)) (List.cons (Value.int (96 : Int) (0 : Nat)) (List.cons (Value.str (Str.ofString "/claim/cut.py") (343 : Nat)) List.nil)))))))))))))))))))) }
noncomputable def o_107 : Params → Obj := by
  refine' (?f : (n : Str) → (a : Arguments) → (b : List Stmt) → (c : List PySem.Expr) → (d : Option PySem.Expr) → (e : List TypeParam) → (g : Scope) → (t : Option Scope) → (j : Str) → (k : Pos) → Cell 29 n a b c d e g t j k → Params → Obj) _ _ _ _ _ _ _ _ _ _ ?h
  case h => exact rfl
  case f => exact fun n a b _ _ _ g _ _ _ _ P => { cls := Value.type "function", dict := @none Nat, data := Data.func { name := n, qualname := n, params := a, body := FuncBody.stmts b, scope := g, globals := (3 : Nat), closure := @List.nil (Str × Nat), defaults := Value.none, kwdefaults := Value.none, annotations := @none Nat, builtins := (0 : Nat), pyModule := Value.str (Str.ofString "cpy313.unittest.util") (321 : Nat), code := Value.ref (106 : Nat) } }
noncomputable def o_108 : Params → Obj := fun P => { cls := Value.type "tuple", dict := @none Nat, data := Data.seq (List.toArray List.nil) }
noncomputable def o_109 : Params → Obj := fun P => { cls := Value.none, dict := @none Nat, data := Data.fields (List.toArray List.nil) }
noncomputable def o_110 : Params → Obj := by
  refine' (?f : (n : Str) → (a : Arguments) → (b : List Stmt) → (c : List PySem.Expr) → (d : Option PySem.Expr) → (e : List TypeParam) → (g : Scope) → (t : Option Scope) → (j : Str) → (k : Pos) → Cell 31 n a b c d e g t j k → Params → Obj) _ _ _ _ _ _ _ _ _ _ ?h
  case h => exact rfl
  case f => exact fun n a b _ _ _ g _ _ _ _ P => { cls := Value.none, dict := @none Nat, data := Data.func { name := n, qualname := n, params := a, body := FuncBody.stmts b, scope := g, globals := (0 : Nat), closure := @List.nil (Str × Nat), defaults := Value.none, kwdefaults := Value.none, annotations := @none Nat, builtins := (0 : Nat) } }
noncomputable def o_111 : Params → Obj := fun P => { cls := Value.type "code", dict := @none Nat, data := Data.fields (List.toArray (List.cons (Value.str (Str.ofString "_law_files") (347 : Nat)) (List.cons (Value.str (Str.ofString "_law_files") (348 : Nat)) (List.cons (Value.str (Str.ofString "/claim/cut.py") (349 : Nat)) (List.cons (Value.int (99 : Int) (0 : Nat)) (List.cons (Value.int (2 : Int) (0 : Nat)) (List.cons (Value.int (0 : Int) (0 : Nat)) (List.cons (Value.int (0 : Int) (0 : Nat)) (List.cons (Value.int (3 : Int) (0 : Nat)) (List.cons (Value.ref (108 : Nat)) (List.cons (Value.bool Bool.true) (List.cons (Value.int (181 : Int) (0 : Nat)) (List.cons (Value.ref (109 : Nat)) (List.cons Value.none (List.cons Value.none (List.cons Value.none (List.cons (Value.ref (110 : Nat)) (List.cons (Value.int (350 : Int) (0 : Nat)) (List.cons (Value.int (99 : Int) (0 : Nat)) (List.cons (Value.str (Str.ofString "/claim/cut.py") (351 : Nat)) List.nil)))))))))))))))))))) }
noncomputable def o_112 : Params → Obj := by
  refine' (?f : (n : Str) → (a : Arguments) → (b : List Stmt) → (c : List PySem.Expr) → (d : Option PySem.Expr) → (e : List TypeParam) → (g : Scope) → (t : Option Scope) → (j : Str) → (k : Pos) → Cell 31 n a b c d e g t j k → Params → Obj) _ _ _ _ _ _ _ _ _ _ ?h
  case h => exact rfl
  case f => exact fun n a b _ _ _ g _ _ _ _ P => { cls := Value.type "function", dict := @none Nat, data := Data.func { name := n, qualname := n, params := a, body := FuncBody.stmts b, scope := g, globals := (3 : Nat), closure := @List.nil (Str × Nat), defaults := Value.none, kwdefaults := Value.none, annotations := @none Nat, builtins := (0 : Nat), pyModule := Value.str (Str.ofString "law_om0036_01") (345 : Nat), code := Value.ref (111 : Nat) } }
noncomputable def o_113 : Params → Obj := fun P => { cls := Value.type "tuple", dict := @none Nat, data := Data.seq (List.toArray List.nil) }
noncomputable def o_114 : Params → Obj := fun P => { cls := Value.none, dict := @none Nat, data := Data.fields (List.toArray List.nil) }
noncomputable def o_115 : Params → Obj := fun P => { cls := Value.type "tuple", dict := @none Nat, data := Data.seq (List.toArray (List.cons (Value.str (Str.ofString "bits") (356 : Nat)) (List.cons (Value.str (Str.ofString "text") (357 : Nat)) (List.cons (Value.str (Str.ofString "k") (358 : Nat)) (List.cons (Value.str (Str.ofString "more") (359 : Nat)) (List.cons (Value.str (Str.ofString "three") (360 : Nat)) (List.cons (Value.str (Str.ofString "last") (361 : Nat)) List.nil))))))) }
noncomputable def o_116 : Params → Obj := fun P => { cls := Value.type "tuple", dict := @none Nat, data := Data.seq (List.toArray List.nil) }
noncomputable def o_117 : Params → Obj := by
  refine' (?f : (n : Str) → (a : Arguments) → (b : List Stmt) → (c : List PySem.Expr) → (d : Option PySem.Expr) → (e : List TypeParam) → (g : Scope) → (t : Option Scope) → (j : Str) → (k : Pos) → Cell 32 n a b c d e g t j k → Params → Obj) _ _ _ _ _ _ _ _ _ _ ?h
  case h => exact rfl
  case f => exact fun n a b _ _ _ g _ _ _ _ P => { cls := Value.none, dict := @none Nat, data := Data.func { name := n, qualname := n, params := a, body := FuncBody.stmts b, scope := g, globals := (0 : Nat), closure := @List.nil (Str × Nat), defaults := Value.none, kwdefaults := Value.none, annotations := @none Nat, builtins := (0 : Nat) } }
noncomputable def o_118 : Params → Obj := fun P => { cls := Value.type "code", dict := @none Nat, data := Data.fields (List.toArray (List.cons (Value.str (Str.ofString "_law_signs") (353 : Nat)) (List.cons (Value.str (Str.ofString "_law_signs") (354 : Nat)) (List.cons (Value.str (Str.ofString "/claim/cut.py") (355 : Nat)) (List.cons (Value.int (103 : Int) (0 : Nat)) (List.cons (Value.int (1 : Int) (0 : Nat)) (List.cons (Value.int (0 : Int) (0 : Nat)) (List.cons (Value.int (0 : Int) (0 : Nat)) (List.cons (Value.int (3 : Int) (0 : Nat)) (List.cons (Value.ref (113 : Nat)) (List.cons (Value.bool Bool.true) (List.cons (Value.int (181 : Int) (0 : Nat)) (List.cons (Value.ref (114 : Nat)) (List.cons Value.none (List.cons (Value.ref (115 : Nat)) (List.cons (Value.ref (116 : Nat)) (List.cons (Value.ref (117 : Nat)) (List.cons (Value.int (362 : Int) (0 : Nat)) (List.cons (Value.int (103 : Int) (0 : Nat)) (List.cons (Value.str (Str.ofString "/claim/cut.py") (363 : Nat)) List.nil)))))))))))))))))))) }
noncomputable def o_119 : Params → Obj := by
  refine' (?f : (n : Str) → (a : Arguments) → (b : List Stmt) → (c : List PySem.Expr) → (d : Option PySem.Expr) → (e : List TypeParam) → (g : Scope) → (t : Option Scope) → (j : Str) → (k : Pos) → Cell 32 n a b c d e g t j k → Params → Obj) _ _ _ _ _ _ _ _ _ _ ?h
  case h => exact rfl
  case f => exact fun n a b _ _ _ g _ _ _ _ P => { cls := Value.type "function", dict := @none Nat, data := Data.func { name := n, qualname := n, params := a, body := FuncBody.stmts b, scope := g, globals := (3 : Nat), closure := @List.nil (Str × Nat), defaults := Value.none, kwdefaults := Value.none, annotations := @none Nat, builtins := (0 : Nat), pyModule := Value.str (Str.ofString "law_om0036_01") (345 : Nat), code := Value.ref (118 : Nat) } }
noncomputable def o_120 : Params → Obj := fun P => { cls := Value.type "tuple", dict := @none Nat, data := Data.seq (List.toArray List.nil) }
noncomputable def o_121 : Params → Obj := fun P => { cls := Value.none, dict := @none Nat, data := Data.fields (List.toArray List.nil) }
noncomputable def o_122 : Params → Obj := fun P => { cls := Value.type "tuple", dict := @none Nat, data := Data.seq (List.toArray (List.cons (Value.str (Str.ofString "kind") (368 : Nat)) (List.cons (Value.str (Str.ofString "name") (369 : Nat)) (List.cons (Value.str (Str.ofString "bits") (370 : Nat)) (List.cons (Value.str (Str.ofString "more") (371 : Nat)) (List.cons (Value.str (Str.ofString "code") (372 : Nat)) (List.cons (Value.str (Str.ofString "head") (373 : Nat)) (List.cons (Value.str (Str.ofString "tail") (374 : Nat)) List.nil)))))))) }
noncomputable def o_123 : Params → Obj := fun P => { cls := Value.type "tuple", dict := @none Nat, data := Data.seq (List.toArray List.nil) }
noncomputable def o_124 : Params → Obj := by
  refine' (?f : (n : Str) → (a : Arguments) → (b : List Stmt) → (c : List PySem.Expr) → (d : Option PySem.Expr) → (e : List TypeParam) → (g : Scope) → (t : Option Scope) → (j : Str) → (k : Pos) → Cell 33 n a b c d e g t j k → Params → Obj) _ _ _ _ _ _ _ _ _ _ ?h
  case h => exact rfl
  case f => exact fun n a b _ _ _ g _ _ _ _ P => { cls := Value.none, dict := @none Nat, data := Data.func { name := n, qualname := n, params := a, body := FuncBody.stmts b, scope := g, globals := (0 : Nat), closure := @List.nil (Str × Nat), defaults := Value.none, kwdefaults := Value.none, annotations := @none Nat, builtins := (0 : Nat) } }
noncomputable def o_125 : Params → Obj := fun P => { cls := Value.type "code", dict := @none Nat, data := Data.fields (List.toArray (List.cons (Value.str (Str.ofString "_law_reply") (365 : Nat)) (List.cons (Value.str (Str.ofString "_law_reply") (366 : Nat)) (List.cons (Value.str (Str.ofString "/claim/cut.py") (367 : Nat)) (List.cons (Value.int (111 : Int) (0 : Nat)) (List.cons (Value.int (4 : Int) (0 : Nat)) (List.cons (Value.int (0 : Int) (0 : Nat)) (List.cons (Value.int (0 : Int) (0 : Nat)) (List.cons (Value.int (3 : Int) (0 : Nat)) (List.cons (Value.ref (120 : Nat)) (List.cons (Value.bool Bool.true) (List.cons (Value.int (181 : Int) (0 : Nat)) (List.cons (Value.ref (121 : Nat)) (List.cons Value.none (List.cons (Value.ref (122 : Nat)) (List.cons (Value.ref (123 : Nat)) (List.cons (Value.ref (124 : Nat)) (List.cons (Value.int (375 : Int) (0 : Nat)) (List.cons (Value.int (111 : Int) (0 : Nat)) (List.cons (Value.str (Str.ofString "/claim/cut.py") (376 : Nat)) List.nil)))))))))))))))))))) }
noncomputable def o_126 : Params → Obj := by
  refine' (?f : (n : Str) → (a : Arguments) → (b : List Stmt) → (c : List PySem.Expr) → (d : Option PySem.Expr) → (e : List TypeParam) → (g : Scope) → (t : Option Scope) → (j : Str) → (k : Pos) → Cell 33 n a b c d e g t j k → Params → Obj) _ _ _ _ _ _ _ _ _ _ ?h
  case h => exact rfl
  case f => exact fun n a b _ _ _ g _ _ _ _ P => { cls := Value.type "function", dict := @none Nat, data := Data.func { name := n, qualname := n, params := a, body := FuncBody.stmts b, scope := g, globals := (3 : Nat), closure := @List.nil (Str × Nat), defaults := Value.none, kwdefaults := Value.none, annotations := @none Nat, builtins := (0 : Nat), pyModule := Value.str (Str.ofString "law_om0036_01") (345 : Nat), code := Value.ref (125 : Nat) } }
noncomputable def o_127 : Params → Obj := fun P => { cls := Value.type "tuple", dict := @none Nat, data := Data.seq (List.toArray List.nil) }
noncomputable def o_128 : Params → Obj := fun P => { cls := Value.none, dict := @none Nat, data := Data.fields (List.toArray List.nil) }
noncomputable def o_129 : Params → Obj := by
  refine' (?f : (n : Str) → (a : Arguments) → (b : List Stmt) → (c : List PySem.Expr) → (d : Option PySem.Expr) → (e : List TypeParam) → (g : Scope) → (t : Option Scope) → (j : Str) → (k : Pos) → Cell 34 n a b c d e g t j k → Params → Obj) _ _ _ _ _ _ _ _ _ _ ?h
  case h => exact rfl
  case f => exact fun n a b _ _ _ g _ _ _ _ P => { cls := Value.none, dict := @none Nat, data := Data.func { name := n, qualname := n, params := a, body := FuncBody.stmts b, scope := g, globals := (0 : Nat), closure := @List.nil (Str × Nat), defaults := Value.none, kwdefaults := Value.none, annotations := @none Nat, builtins := (0 : Nat) } }
noncomputable def o_130 : Params → Obj := fun P => { cls := Value.type "code", dict := @none Nat, data := Data.fields (List.toArray (List.cons (Value.str (Str.ofString "_law_listing") (378 : Nat)) (List.cons (Value.str (Str.ofString "_law_listing") (379 : Nat)) (List.cons (Value.str (Str.ofString "/claim/cut.py") (380 : Nat)) (List.cons (Value.int (116 : Int) (0 : Nat)) (List.cons (Value.int (1 : Int) (0 : Nat)) (List.cons (Value.int (0 : Int) (0 : Nat)) (List.cons (Value.int (0 : Int) (0 : Nat)) (List.cons (Value.int (3 : Int) (0 : Nat)) (List.cons (Value.ref (127 : Nat)) (List.cons (Value.bool Bool.true) (List.cons (Value.int (181 : Int) (0 : Nat)) (List.cons (Value.ref (128 : Nat)) (List.cons Value.none (List.cons Value.none (List.cons Value.none (List.cons (Value.ref (129 : Nat)) (List.cons (Value.int (381 : Int) (0 : Nat)) (List.cons (Value.int (116 : Int) (0 : Nat)) (List.cons (Value.str (Str.ofString "/claim/cut.py") (382 : Nat)) List.nil)))))))))))))))))))) }
noncomputable def o_131 : Params → Obj := by
  refine' (?f : (n : Str) → (a : Arguments) → (b : List Stmt) → (c : List PySem.Expr) → (d : Option PySem.Expr) → (e : List TypeParam) → (g : Scope) → (t : Option Scope) → (j : Str) → (k : Pos) → Cell 34 n a b c d e g t j k → Params → Obj) _ _ _ _ _ _ _ _ _ _ ?h
  case h => exact rfl
  case f => exact fun n a b _ _ _ g _ _ _ _ P => { cls := Value.type "function", dict := @none Nat, data := Data.func { name := n, qualname := n, params := a, body := FuncBody.stmts b, scope := g, globals := (3 : Nat), closure := @List.nil (Str × Nat), defaults := Value.none, kwdefaults := Value.none, annotations := @none Nat, builtins := (0 : Nat), pyModule := Value.str (Str.ofString "law_om0036_01") (345 : Nat), code := Value.ref (130 : Nat) } }
noncomputable def o_132 : Params → Obj := fun P => { cls := Value.type "tuple", dict := @none Nat, data := Data.seq (List.toArray List.nil) }
noncomputable def o_133 : Params → Obj := fun P => { cls := Value.none, dict := @none Nat, data := Data.fields (List.toArray List.nil) }
noncomputable def o_134 : Params → Obj := fun P => { cls := Value.type "tuple", dict := @none Nat, data := Data.seq (List.toArray (List.cons (Value.str (Str.ofString "gone") (387 : Nat)) (List.cons (Value.str (Str.ofString "new") (388 : Nat)) (List.cons (Value.str (Str.ofString "report") (389 : Nat)) (List.cons (Value.str (Str.ofString "turn") (390 : Nat)) (List.cons (Value.str (Str.ofString "left") (391 : Nat)) (List.cons (Value.str (Str.ofString "right") (392 : Nat)) List.nil))))))) }
noncomputable def o_135 : Params → Obj := fun P => { cls := Value.type "tuple", dict := @none Nat, data := Data.seq (List.toArray List.nil) }
noncomputable def o_136 : Params → Obj := by
  refine' (?f : (n : Str) → (a : Arguments) → (b : List Stmt) → (c : List PySem.Expr) → (d : Option PySem.Expr) → (e : List TypeParam) → (g : Scope) → (t : Option Scope) → (j : Str) → (k : Pos) → Cell 35 n a b c d e g t j k → Params → Obj) _ _ _ _ _ _ _ _ _ _ ?h
  case h => exact rfl
  case f => exact fun n a b _ _ _ g _ _ _ _ P => { cls := Value.none, dict := @none Nat, data := Data.func { name := n, qualname := n, params := a, body := FuncBody.stmts b, scope := g, globals := (0 : Nat), closure := @List.nil (Str × Nat), defaults := Value.none, kwdefaults := Value.none, annotations := @none Nat, builtins := (0 : Nat) } }
noncomputable def o_137 : Params → Obj := fun P => { cls := Value.type "code", dict := @none Nat, data := Data.fields (List.toArray (List.cons (Value.str (Str.ofString "_law_report") (384 : Nat)) (List.cons (Value.str (Str.ofString "_law_report") (385 : Nat)) (List.cons (Value.str (Str.ofString "/claim/cut.py") (386 : Nat)) (List.cons (Value.int (128 : Int) (0 : Nat)) (List.cons (Value.int (2 : Int) (0 : Nat)) (List.cons (Value.int (0 : Int) (0 : Nat)) (List.cons (Value.int (0 : Int) (0 : Nat)) (List.cons (Value.int (3 : Int) (0 : Nat)) (List.cons (Value.ref (132 : Nat)) (List.cons (Value.bool Bool.true) (List.cons (Value.int (181 : Int) (0 : Nat)) (List.cons (Value.ref (133 : Nat)) (List.cons Value.none (List.cons (Value.ref (134 : Nat)) (List.cons (Value.ref (135 : Nat)) (List.cons (Value.ref (136 : Nat)) (List.cons (Value.int (393 : Int) (0 : Nat)) (List.cons (Value.int (128 : Int) (0 : Nat)) (List.cons (Value.str (Str.ofString "/claim/cut.py") (394 : Nat)) List.nil)))))))))))))))))))) }
noncomputable def o_138 : Params → Obj := by
  refine' (?f : (n : Str) → (a : Arguments) → (b : List Stmt) → (c : List PySem.Expr) → (d : Option PySem.Expr) → (e : List TypeParam) → (g : Scope) → (t : Option Scope) → (j : Str) → (k : Pos) → Cell 35 n a b c d e g t j k → Params → Obj) _ _ _ _ _ _ _ _ _ _ ?h
  case h => exact rfl
  case f => exact fun n a b _ _ _ g _ _ _ _ P => { cls := Value.type "function", dict := @none Nat, data := Data.func { name := n, qualname := n, params := a, body := FuncBody.stmts b, scope := g, globals := (3 : Nat), closure := @List.nil (Str × Nat), defaults := Value.none, kwdefaults := Value.none, annotations := @none Nat, builtins := (0 : Nat), pyModule := Value.str (Str.ofString "law_om0036_01") (345 : Nat), code := Value.ref (137 : Nat) } }
noncomputable def o_139 : Params → Obj := fun P => { cls := Value.type "tuple", dict := @none Nat, data := Data.seq (List.toArray List.nil) }
noncomputable def o_140 : Params → Obj := fun P => { cls := Value.none, dict := @none Nat, data := Data.fields (List.toArray List.nil) }
noncomputable def o_141 : Params → Obj := by
  refine' (?f : (n : Str) → (a : Arguments) → (b : List Stmt) → (c : List PySem.Expr) → (d : Option PySem.Expr) → (e : List TypeParam) → (g : Scope) → (t : Option Scope) → (j : Str) → (k : Pos) → Cell 36 n a b c d e g t j k → Params → Obj) _ _ _ _ _ _ _ _ _ _ ?h
  case h => exact rfl
  case f => exact fun n a b _ _ _ g _ _ _ _ P => { cls := Value.none, dict := @none Nat, data := Data.func { name := n, qualname := n, params := a, body := FuncBody.stmts b, scope := g, globals := (0 : Nat), closure := @List.nil (Str × Nat), defaults := Value.none, kwdefaults := Value.none, annotations := @none Nat, builtins := (0 : Nat) } }
noncomputable def o_142 : Params → Obj := fun P => { cls := Value.type "code", dict := @none Nat, data := Data.fields (List.toArray (List.cons (Value.str (Str.ofString "_law_thrice") (396 : Nat)) (List.cons (Value.str (Str.ofString "_law_thrice") (397 : Nat)) (List.cons (Value.str (Str.ofString "/claim/cut.py") (398 : Nat)) (List.cons (Value.int (136 : Int) (0 : Nat)) (List.cons (Value.int (2 : Int) (0 : Nat)) (List.cons (Value.int (0 : Int) (0 : Nat)) (List.cons (Value.int (0 : Int) (0 : Nat)) (List.cons (Value.int (3 : Int) (0 : Nat)) (List.cons (Value.ref (139 : Nat)) (List.cons (Value.bool Bool.true) (List.cons (Value.int (181 : Int) (0 : Nat)) (List.cons (Value.ref (140 : Nat)) (List.cons Value.none (List.cons Value.none (List.cons Value.none (List.cons (Value.ref (141 : Nat)) (List.cons (Value.int (399 : Int) (0 : Nat)) (List.cons (Value.int (136 : Int) (0 : Nat)) (List.cons (Value.str (Str.ofString "/claim/cut.py") (400 : Nat)) List.nil)))))))))))))))))))) }
noncomputable def o_143 : Params → Obj := by
  refine' (?f : (n : Str) → (a : Arguments) → (b : List Stmt) → (c : List PySem.Expr) → (d : Option PySem.Expr) → (e : List TypeParam) → (g : Scope) → (t : Option Scope) → (j : Str) → (k : Pos) → Cell 36 n a b c d e g t j k → Params → Obj) _ _ _ _ _ _ _ _ _ _ ?h
  case h => exact rfl
  case f => exact fun n a b _ _ _ g _ _ _ _ P => { cls := Value.type "function", dict := @none Nat, data := Data.func { name := n, qualname := n, params := a, body := FuncBody.stmts b, scope := g, globals := (3 : Nat), closure := @List.nil (Str × Nat), defaults := Value.none, kwdefaults := Value.none, annotations := @none Nat, builtins := (0 : Nat), pyModule := Value.str (Str.ofString "law_om0036_01") (345 : Nat), code := Value.ref (142 : Nat) } }
noncomputable def o_144 : Params → Obj := fun P => { cls := Value.type "tuple", dict := @none Nat, data := Data.seq (List.toArray List.nil) }
noncomputable def o_145 : Params → Obj := fun P => { cls := Value.none, dict := @none Nat, data := Data.fields (List.toArray List.nil) }
noncomputable def o_146 : Params → Obj := by
  refine' (?f : (n : Str) → (a : Arguments) → (b : List Stmt) → (c : List PySem.Expr) → (d : Option PySem.Expr) → (e : List TypeParam) → (g : Scope) → (t : Option Scope) → (j : Str) → (k : Pos) → Cell 37 n a b c d e g t j k → Params → Obj) _ _ _ _ _ _ _ _ _ _ ?h
  case h => exact rfl
  case f => exact fun n a b _ _ _ g _ _ _ _ P => { cls := Value.none, dict := @none Nat, data := Data.func { name := n, qualname := n, params := a, body := FuncBody.stmts b, scope := g, globals := (0 : Nat), closure := @List.nil (Str × Nat), defaults := Value.none, kwdefaults := Value.none, annotations := @none Nat, builtins := (0 : Nat) } }
noncomputable def o_147 : Params → Obj := fun P => { cls := Value.type "code", dict := @none Nat, data := Data.fields (List.toArray (List.cons (Value.str (Str.ofString "law") (402 : Nat)) (List.cons (Value.str (Str.ofString "law") (403 : Nat)) (List.cons (Value.str (Str.ofString "/claim/cut.py") (404 : Nat)) (List.cons (Value.int (138 : Int) (0 : Nat)) (List.cons (Value.int (1 : Int) (0 : Nat)) (List.cons (Value.int (0 : Int) (0 : Nat)) (List.cons (Value.int (0 : Int) (0 : Nat)) (List.cons (Value.int (3 : Int) (0 : Nat)) (List.cons (Value.ref (144 : Nat)) (List.cons (Value.bool Bool.true) (List.cons (Value.int (181 : Int) (0 : Nat)) (List.cons (Value.ref (145 : Nat)) (List.cons Value.none (List.cons Value.none (List.cons Value.none (List.cons (Value.ref (146 : Nat)) (List.cons (Value.int (405 : Int) (0 : Nat)) (List.cons (Value.int (138 : Int) (0 : Nat)) (List.cons (Value.str (Str.ofString "/claim/cut.py") (406 : Nat)) List.nil)))))))))))))))))))) }
noncomputable def o_148 : Params → Obj := by
  refine' (?f : (n : Str) → (a : Arguments) → (b : List Stmt) → (c : List PySem.Expr) → (d : Option PySem.Expr) → (e : List TypeParam) → (g : Scope) → (t : Option Scope) → (j : Str) → (k : Pos) → Cell 37 n a b c d e g t j k → Params → Obj) _ _ _ _ _ _ _ _ _ _ ?h
  case h => exact rfl
  case f => exact fun n a b _ _ _ g _ _ _ _ P => { cls := Value.type "function", dict := @none Nat, data := Data.func { name := n, qualname := n, params := a, body := FuncBody.stmts b, scope := g, globals := (3 : Nat), closure := @List.nil (Str × Nat), defaults := Value.none, kwdefaults := Value.none, annotations := @none Nat, builtins := (0 : Nat), pyModule := Value.str (Str.ofString "law_om0036_01") (345 : Nat), code := Value.ref (147 : Nat) } }
noncomputable def heap_39 : Params → Frag := by
  refine' (?f : (K : Params → Frag) → (fun P => @Prod.mk Nat Obj (nat_lit 2) (o_2 P) :: @Prod.mk Nat Obj (nat_lit 3) (o_3 P) :: @Prod.mk Nat Obj (nat_lit 6) (boot_o_6 P) :: @Prod.mk Nat Obj (nat_lit 15) (o_15 P) :: @Prod.mk Nat Obj (nat_lit 22) (o_22 P) :: @Prod.mk Nat Obj (nat_lit 23) (o_23 P) :: @Prod.mk Nat Obj (nat_lit 24) (o_24 P) :: @Prod.mk Nat Obj (nat_lit 25) (o_25 P) :: @Prod.mk Nat Obj (nat_lit 28) (o_28 P) :: @Prod.mk Nat Obj (nat_lit 35) (o_35 P) :: @Prod.mk Nat Obj (nat_lit 36) (o_36 P) :: @Prod.mk Nat Obj (nat_lit 37) (o_37 P) :: @Prod.mk Nat Obj (nat_lit 40) (o_40 P) :: @Prod.mk Nat Obj (nat_lit 42) (o_42 P) :: @Prod.mk Nat Obj (nat_lit 43) (o_43 P) :: @Prod.mk Nat Obj (nat_lit 45) (o_45 P) :: @Prod.mk Nat Obj (nat_lit 46) (o_46 P) :: @Prod.mk Nat Obj (nat_lit 47) (o_47 P) :: @Prod.mk Nat Obj (nat_lit 49) (o_49 P) :: @Prod.mk Nat Obj (nat_lit 50) (o_50 P) :: @Prod.mk Nat Obj (nat_lit 52) (o_52 P) :: @Prod.mk Nat Obj (nat_lit 53) (o_53 P) :: @Prod.mk Nat Obj (nat_lit 54) (o_54 P) :: @Prod.mk Nat Obj (nat_lit 55) (o_55 P) :: @Prod.mk Nat Obj (nat_lit 56) (o_56 P) :: @Prod.mk Nat Obj (nat_lit 57) (o_57 P) :: @Prod.mk Nat Obj (nat_lit 58) (o_58 P) :: @Prod.mk Nat Obj (nat_lit 59) (o_59 P) :: @Prod.mk Nat Obj (nat_lit 60) (o_60 P) :: @Prod.mk Nat Obj (nat_lit 61) (o_61 P) :: @Prod.mk Nat Obj (nat_lit 62) (o_62 P) :: @Prod.mk Nat Obj (nat_lit 63) (o_63 P) :: @Prod.mk Nat Obj (nat_lit 64) (o_64 P) :: @Prod.mk Nat Obj (nat_lit 65) (o_65 P) :: @Prod.mk Nat Obj (nat_lit 66) (o_66 P) :: @Prod.mk Nat Obj (nat_lit 67) (o_67 P) :: @Prod.mk Nat Obj (nat_lit 68) (o_68 P) :: @Prod.mk Nat Obj (nat_lit 69) (o_69 P) :: @Prod.mk Nat Obj (nat_lit 70) (o_70 P) :: @Prod.mk Nat Obj (nat_lit 71) (o_71 P) :: @Prod.mk Nat Obj (nat_lit 72) (o_72 P) :: @Prod.mk Nat Obj (nat_lit 73) (o_73 P) :: @Prod.mk Nat Obj (nat_lit 74) (o_74 P) :: @Prod.mk Nat Obj (nat_lit 75) (o_75 P) :: @Prod.mk Nat Obj (nat_lit 76) (o_76 P) :: @Prod.mk Nat Obj (nat_lit 77) (o_77 P) :: @Prod.mk Nat Obj (nat_lit 78) (o_78 P) :: @Prod.mk Nat Obj (nat_lit 79) (o_79 P) :: @Prod.mk Nat Obj (nat_lit 80) (o_80 P) :: @Prod.mk Nat Obj (nat_lit 81) (o_81 P) :: @Prod.mk Nat Obj (nat_lit 82) (o_82 P) :: @Prod.mk Nat Obj (nat_lit 83) (o_83 P) :: @Prod.mk Nat Obj (nat_lit 84) (o_84 P) :: @Prod.mk Nat Obj (nat_lit 85) (o_85 P) :: @Prod.mk Nat Obj (nat_lit 86) (o_86 P) :: @Prod.mk Nat Obj (nat_lit 87) (o_87 P) :: @Prod.mk Nat Obj (nat_lit 89) (o_89 P) :: @Prod.mk Nat Obj (nat_lit 90) (o_90 P) :: @Prod.mk Nat Obj (nat_lit 92) (o_92 P) :: @Prod.mk Nat Obj (nat_lit 93) (o_93 P) :: @Prod.mk Nat Obj (nat_lit 94) (o_94 P) :: @Prod.mk Nat Obj (nat_lit 96) (o_96 P) :: @Prod.mk Nat Obj (nat_lit 97) (o_97 P) :: @Prod.mk Nat Obj (nat_lit 99) (o_99 P) :: @Prod.mk Nat Obj (nat_lit 100) (o_100 P) :: @Prod.mk Nat Obj (nat_lit 101) (o_101 P) :: @Prod.mk Nat Obj (nat_lit 103) (o_103 P) :: @Prod.mk Nat Obj (nat_lit 104) (o_104 P) :: @Prod.mk Nat Obj (nat_lit 106) (o_106 P) :: @Prod.mk Nat Obj (nat_lit 107) (o_107 P) :: @Prod.mk Nat Obj (nat_lit 108) (o_108 P) :: @Prod.mk Nat Obj (nat_lit 111) (o_111 P) :: @Prod.mk Nat Obj (nat_lit 112) (o_112 P) :: @Prod.mk Nat Obj (nat_lit 113) (o_113 P) :: @Prod.mk Nat Obj (nat_lit 115) (o_115 P) :: @Prod.mk Nat Obj (nat_lit 116) (o_116 P) :: @Prod.mk Nat Obj (nat_lit 118) (o_118 P) :: @Prod.mk Nat Obj (nat_lit 119) (o_119 P) :: @Prod.mk Nat Obj (nat_lit 120) (o_120 P) :: @Prod.mk Nat Obj (nat_lit 122) (o_122 P) :: @Prod.mk Nat Obj (nat_lit 123) (o_123 P) :: @Prod.mk Nat Obj (nat_lit 125) (o_125 P) :: @Prod.mk Nat Obj (nat_lit 126) (o_126 P) :: @Prod.mk Nat Obj (nat_lit 127) (o_127 P) :: @Prod.mk Nat Obj (nat_lit 130) (o_130 P) :: @Prod.mk Nat Obj (nat_lit 131) (o_131 P) :: @Prod.mk Nat Obj (nat_lit 132) (o_132 P) :: @Prod.mk Nat Obj (nat_lit 134) (o_134 P) :: @Prod.mk Nat Obj (nat_lit 135) (o_135 P) :: @Prod.mk Nat Obj (nat_lit 137) (o_137 P) :: @Prod.mk Nat Obj (nat_lit 138) (o_138 P) :: @Prod.mk Nat Obj (nat_lit 139) (o_139 P) :: @Prod.mk Nat Obj (nat_lit 142) (o_142 P) :: @Prod.mk Nat Obj (nat_lit 143) (o_143 P) :: @Prod.mk Nat Obj (nat_lit 144) (o_144 P) :: @Prod.mk Nat Obj (nat_lit 147) (o_147 P) :: @Prod.mk Nat Obj (nat_lit 148) (o_148 P) :: [] : Params → List (Nat × Obj)) = K → Params → Frag) _ ?h
  case h => delta o_2 o_3 boot_o_6 o_15 o_22 o_23 o_24 o_25 o_28 o_35 o_36 o_37 o_40 o_42 o_43 o_45 o_46 o_47 o_49 o_50 o_52 o_53 o_54 o_55 o_56 o_57 o_58 o_59 o_60 o_61 o_62 o_63 o_64 o_65 o_66 o_67 o_68 o_69 o_70 o_71 o_72 o_73 o_74 o_75 o_76 o_77 o_78 o_79 o_80 o_81 o_82 o_83 o_84 o_85 o_86 o_87 o_89 o_90 o_92 o_93 o_94 o_96 o_97 o_99 o_100 o_101 o_103 o_104 o_106 o_107 o_108 o_111 o_112 o_113 o_115 o_116 o_118 o_119 o_120 o_122 o_123 o_125 o_126 o_127 o_130 o_131 o_132 o_134 o_135 o_137 o_138 o_139 o_142 o_143 o_144 o_147 o_148; exact rfl
  case f => exact fun K _ => K
noncomputable def heap_end : Params → Heap := fun P => { objs := Array.mk (boot_o_0 P :: boot_o_1 P :: o_2 P :: o_3 P :: boot_o_4 P :: boot_o_5 P :: boot_o_6 P :: boot_o_7 P :: boot_o_8 P :: boot_o_9 P :: boot_o_10 P :: o_11 P :: o_12 P :: o_13 P :: o_14 P :: o_15 P :: o_16 P :: o_17 P :: o_18 P :: o_19 P :: o_20 P :: o_21 P :: o_22 P :: o_23 P :: o_24 P :: o_25 P :: o_26 P :: o_27 P :: o_28 P :: o_29 P :: o_30 P :: o_31 P :: o_32 P :: o_33 P :: o_34 P :: o_35 P :: o_36 P :: o_37 P :: o_38 P :: o_39 P :: o_40 P :: o_41 P :: o_42 P :: o_43 P :: o_44 P :: o_45 P :: o_46 P :: o_47 P :: o_48 P :: o_49 P :: o_50 P :: o_51 P :: o_52 P :: o_53 P :: o_54 P :: o_55 P :: o_56 P :: o_57 P :: o_58 P :: o_59 P :: o_60 P :: o_61 P :: o_62 P :: o_63 P :: o_64 P :: o_65 P :: o_66 P :: o_67 P :: o_68 P :: o_69 P :: o_70 P :: o_71 P :: o_72 P :: o_73 P :: o_74 P :: o_75 P :: o_76 P :: o_77 P :: o_78 P :: o_79 P :: o_80 P :: o_81 P :: o_82 P :: o_83 P :: o_84 P :: o_85 P :: o_86 P :: o_87 P :: o_88 P :: o_89 P :: o_90 P :: o_91 P :: o_92 P :: o_93 P :: o_94 P :: o_95 P :: o_96 P :: o_97 P :: o_98 P :: o_99 P :: o_100 P :: o_101 P :: o_102 P :: o_103 P :: o_104 P :: o_105 P :: o_106 P :: o_107 P :: o_108 P :: o_109 P :: o_110 P :: o_111 P :: o_112 P :: o_113 P :: o_114 P :: o_115 P :: o_116 P :: o_117 P :: o_118 P :: o_119 P :: o_120 P :: o_121 P :: o_122 P :: o_123 P :: o_124 P :: o_125 P :: o_126 P :: o_127 P :: o_128 P :: o_129 P :: o_130 P :: o_131 P :: o_132 P :: o_133 P :: o_134 P :: o_135 P :: o_136 P :: o_137 P :: o_138 P :: o_139 P :: o_140 P :: o_141 P :: o_142 P :: o_143 P :: o_144 P :: o_145 P :: o_146 P :: o_147 P :: o_148 P :: []), life := { } }
end hd
end Mine
end

section
open PySem PySem.W PyProof.Rows
set_option Elab.async false
set_option maxRecDepth 100000
set_option maxHeartbeats 8000000
set_option linter.all false
set_option pp.deepTerms false
set_option pp.deepTerms.threshold 6
namespace Mine
abbrev P0 : Program := PySem.Challenge.rw_om0036_01.row.prog
noncomputable def hd.view_39 : Program :=
  { P0 with main := { P0.main with body := (P0.main.body.drop 1).take 3 ++ ((P0.main.body.drop 5).take 22 ++ ((P0.main.body.drop 28).take 2 ++ P0.main.body.drop 31)) } }
abbrev loose0 : List Str := [Str.ofString "_filemode_table"]
abbrev ro (l : List (Int × Nat)) : WData := .tuple (l.map fun x => .tuple [.int x.1, .str ⟨#[x.2]⟩])
abbrev lv0 : List (Str × WData) := [(Str.ofString "_filemode_table", .tuple
  [ro [(40960, 108), (49152, 115), (32768, 45), (24576, 98), (16384, 100), (8192, 99), (4096, 112)],
   ro [(256, 114)], ro [(128, 119)], ro [(2112, 115), (2048, 83), (64, 120)],
   ro [(32, 114)], ro [(16, 119)], ro [(1032, 115), (1024, 83), (8, 120)],
   ro [(4, 114)], ro [(2, 119)], ro [(513, 116), (512, 84), (1, 120)]])]
noncomputable abbrev xt0 : Shared → Bool := fun s => xlAt hd.view_39 lv0 s && recOk (RowW.records PySem.Challenge.rw_om0036_01.row.toRowW) s
abbrev as0 : List Addr := [2, 3, 6, 15, 22, 23, 24, 25, 28, 35, 36, 37, 40, 42, 43, 45, 46, 47, 49, 50, 52, 53, 54, 55, 56, 57, 58, 59, 60, 61, 62, 63, 64, 65, 66, 67, 68, 69, 70, 71, 72, 73, 74, 75, 76, 77, 78, 79, 80, 81, 82, 83, 84, 85, 86, 87, 89, 90, 92, 93, 94, 96, 97, 99, 100, 101, 103, 104, 106, 107, 108, 111, 112, 113, 115, 116, 118, 119, 120, 122, 123, 125, 126, 127, 130, 131, 132, 134, 135, 137, 138, 139, 142, 143, 144, 147, 148]
theorem as0_ok (P : Params) : as0 = (hd.heap_39 P).map (·.1) := by kernel_rfl
noncomputable abbrev hook0 : Hook := kHook hd.heap_39 as0 as0_ok
noncomputable abbrev end0 (w : World) (os : OsState) : Shared := { heap := hd.heap_end w.params, gens := Array.mk [], toks := 408, os := os }
theorem run0 (w : World) (os : OsState) : topRun treeTable P0 w 11 (some (Value.ref 6)) 1165 ⟨boot_heap w.params, Array.mk [], boot_drawn, boot_toks, os⟩ (topStub P0) = some (end0 w os) := by
  rewrite [Fast.te14082659384304107361, Fast.te14364793385576792824]
  kernel_rfl

theorem seen0 (w : World) (os : OsState) : openSeen hd.view_39 loose0 (importedModules P0.main.body) xt0 true (end0 w os) = openGood hd.view_39 loose0 := by
  delta openSeen openGood
  refine looks_pair ?_ (looks_pair ?_ (looks_pair ?_ (looks_pair ?_ (looks_pair ?_ (looks_pair ?_ (looks_pair ?_ (looks_pair ?_ ?_)))))))
  · as_aux_lemma => rewrite [Fast.te5160383126252970620, Fast.te3399658132070893891, Fast.te5991557255702980513]; kernel_rfl
  · kernel_rfl
  · as_aux_lemma => rewrite [Fast.te10880121769531294198, Fast.te821141287760084731, Fast.te3399658132070893891, Fast.te7409074990110511671, Fast.te13664370479719496447, Fast.te14722251495701143533, Fast.te5923862056798008813, Fast.te10994771534591457954]; kernel_rfl
  · as_aux_lemma => rewrite [Fast.te479339242167458305]; kernel_rfl
  · as_aux_lemma => rewrite [Fast.te16090120013241838585]; kernel_rfl
  · as_aux_lemma => rewrite [Fast.te2386780881361962483]; kernel_rfl
  · as_aux_lemma => rewrite [Fast.te11698064438423848299]; kernel_rfl
  · as_aux_lemma => rewrite [Fast.te7317090234206586261]; kernel_rfl
  · as_aux_lemma => rewrite [Fast.te7369524293546568484]; kernel_rfl
theorem stat0 (w : World) (os : OsState) : (staticsOk (importedModules P0.main.body) (boot_heap w.params) (hd.heap_end w.params) && namesBound P0 (hd.heap_end w.params) && gensDone (end0 w os) && laidKept (boot_heap w.params) (hd.heap_end w.params)) = true := by
  rewrite [Fast.te5923862056798008813]; kernel_rfl
theorem obs0 (w : World) (os : OsState) : hook0.obs (end0 w os) = hook0.val w := by kernel_rfl
theorem size0 (w : World) : ((boot_heap w.params).isNs mainGlobals && (Array.mk [] : Array GenState).size == 0, (boot_heap w.params).objs.size, (boot_heap w.params).nsMap mainGlobals "__annotations__") = (true, 11, some (Value.ref 6)) := by
  rewrite [Fast.te8920871248978507458]; kernel_rfl
theorem left0 : LeftO P0 hd.view_39 loose0 xt0 hook0.obs hook0.val 2418 :=
  LeftO.of_pieces (H₀ := boot_heap) (H₁ := hd.heap_end) (gs₀ := Array.mk []) (gs₁ := Array.mk []) (d₀ := boot_drawn) (k₀ := boot_toks) (k₁ := 408) (m₀ := 11) (ann := some (Value.ref 6)) (M := 1165)
    (boot_open (by kernel_rfl) (by decide) (fun s => by kernel_rfl)) size0 run0 (by decide)
    (fun w => funext fun os => looks_pair (stat0 w os) (looks_pair (seen0 w os) (obs0 w os)))
theorem said0 : PySem.Challenge.rw_om0036_01.wellSaid = true := by
  delta OpenLaw.wellSaid OpenRow.wellSaid OpenRow.partSaid looksOpen
  repeat' (with_reducible refine look_both ?_ ?_)
  all_goals ((try rewrite [Fast.te8377067652309620493]); (try rewrite [Fast.te8326940854005059898]); (try rewrite [Fast.te17119622794617984870]); (try rewrite [Fast.named_eq]); (try rewrite [Fast.te797321630700447069]); (try rewrite [Fast.te6984425678791042302]); decide +kernel)
theorem ok0 : (chainsOk hd.view_39 && opensWell P0 && (frees PySem.Challenge.rw_om0036_01.row.toRowW && PySem.Challenge.rw_om0036_01.row.within.isEmpty)) = true := by decide +kernel
theorem tables0 : P0.tablesWhole = true := by decide +kernel
end Mine
end

section
open PySem PySem.W PyProof.Rows
set_option Elab.async false
namespace Mine
def scan : List Nat → List Nat
  | [] => []
  | [c] => if c = 34 then [] else [c]
  | c :: e :: t => if c = 34 then (if e = 34 then 34 :: scan t else []) else c :: scan (e :: t)
theorem scan_nil : scan [] = [] := by rw [scan]
theorem scan_ne {c : Nat} {t : List Nat} (h : c ≠ 34) : scan (c :: t) = c :: scan t := by
  cases t with
  | nil => rw [scan, scan, if_neg h]
  | cons e t => rw [scan, if_neg h]
theorem scan_qq {t : List Nat} : scan (34 :: 34 :: t) = 34 :: scan t := by rw [scan, if_pos rfl, if_pos rfl]
theorem scan_q1 : scan [34] = [] := by rw [scan, if_pos rfl]
theorem scan_q2 {c : Nat} {t : List Nat} (h : c ≠ 34) : scan (34 :: c :: t) = [] := by rw [scan, if_pos rfl, if_neg h]
theorem quote_is : Str.ofString "\"" = ⟨#[34]⟩ := by decide +kernel
theorem item_at {x : Str} {i : Int} (h0 : 0 ≤ i) (h1 : i < x.length) : ∃ c, x.cps.toList.drop i.toNat = c :: x.cps.toList.drop (i + 1).toNat ∧ Txt.item x i = ⟨#[c]⟩ := by
  obtain ⟨n, rfl⟩ := Int.eq_ofNat_of_zero_le h0
  have hl : n < x.cps.toList.length := (show x.length = x.cps.toList.length by simp [Str.length]) ▸ Int.ofNat_lt.mp h1
  refine ⟨x.cps.toList[n], ?_, ?_⟩
  · exact List.drop_eq_getElem_cons hl
  · rw [item_meets ⟨h0, h1⟩]
    have : n < x.cps.size := by simpa using hl
    simp [Array.getD, this]
theorem eq_quote {c : Nat} : ((⟨#[c]⟩ : Str) == Str.ofString "\"") = true ↔ c = 34 := by
  rw [quote_is, beq_iff_eq]
  constructor
  · intro h; injection h with h; simpa using h
  · intro h; rw [h]
theorem ne_quote {c : Nat} : ((⟨#[c]⟩ : Str) != Str.ofString "\"") = true ↔ c ≠ 34 := by
  rw [bne, Bool.not_eq_true', Bool.eq_false_iff, ne_eq, eq_quote]
def PI (x : Str) (i : Int) (d : Str) : Prop := d.cps.toList ++ scan (x.cps.toList.drop i.toNat) = scan (x.cps.toList.drop 5)
def PW (x : Str) (i : Int) (d : Str) : Prop := 0 ≤ i ∧ (d.length : Int) ≤ i ∧ PI x i d
theorem pi_start {x : Str} : PI x 5 (Str.ofString "") := by
  have : Str.ofString "" = ⟨#[]⟩ := by decide +kernel
  rw [PI, this]; rfl
theorem pi_q {x d : Str} {i : Int} (h0 : 0 ≤ i) (h1 : i < x.length) (h2 : (Txt.item x i == Str.ofString "\"") = true) (h3 : ¬ (x.length : Int) ≤ i + 1) (h4 : (Txt.item x (i + 1) != Str.ofString "\"") = false) (h : PI x i d) : PI x (i + 1 + 1) (d ++ Txt.item x i) := by
  obtain ⟨c, e1, e2⟩ := item_at h0 h1
  obtain ⟨c', e3, e4⟩ := item_at (x := x) (i := i + 1) (by omega) (by omega)
  rw [e2, eq_quote] at h2
  rw [e4, Bool.eq_false_iff, ne_eq, ne_quote] at h4
  have h4' : c' = 34 := Classical.byContradiction h4
  subst h2 h4'
  rw [PI, e1, e3, scan_qq] at h
  rw [PI, e2, Str.cps_append]
  simpa using h
theorem pi_c {x d : Str} {i : Int} (h0 : 0 ≤ i) (h1 : i < x.length) (h2 : (Txt.item x i == Str.ofString "\"") = false) (h : PI x i d) : PI x (i + 1) (d ++ Txt.item x i) := by
  obtain ⟨c, e1, e2⟩ := item_at h0 h1
  rw [e2, Bool.eq_false_iff, ne_eq, eq_quote] at h2
  rw [PI, e1, scan_ne h2] at h
  rw [PI, e2, Str.cps_append]
  simpa using h
theorem pi_b1 {x d : Str} {i : Int} (h0 : 0 ≤ i) (h1 : i < x.length) (h2 : (Txt.item x i == Str.ofString "\"") = true) (h3 : (x.length : Int) ≤ i + 1) (h : PI x i d) : d.cps.toList = scan (x.cps.toList.drop 5) := by
  obtain ⟨c, e1, e2⟩ := item_at h0 h1
  rw [e2, eq_quote] at h2
  have : x.cps.toList.drop (i + 1).toNat = [] := List.drop_of_length_le (by have : x.length = x.cps.toList.length := by simp [Str.length]
                                                                            omega)
  subst h2
  rw [PI, e1, this, scan_q1, List.append_nil] at h
  exact h
theorem pi_b2 {x d : Str} {i : Int} (h0 : 0 ≤ i) (h1 : i < x.length) (h2 : (Txt.item x i == Str.ofString "\"") = true) (h3 : ¬ (x.length : Int) ≤ i + 1) (h4 : (Txt.item x (i + 1) != Str.ofString "\"") = true) (h : PI x i d) : d.cps.toList = scan (x.cps.toList.drop 5) := by
  obtain ⟨c, e1, e2⟩ := item_at h0 h1
  obtain ⟨c', e3, e4⟩ := item_at (x := x) (i := i + 1) (by omega) (by omega)
  rw [e2, eq_quote] at h2
  rw [e4, ne_quote] at h4
  subst h2
  rw [PI, e1, e3, scan_q2 h4, List.append_nil] at h
  exact h
theorem pi_done {x d : Str} {i : Int} (h1 : ¬ i < x.length) (h : PI x i d) : d.cps.toList = scan (x.cps.toList.drop 5) := by
  have : x.cps.toList.drop i.toNat = [] := List.drop_of_length_le (by have : x.length = x.cps.toList.length := by simp [Str.length]
                                                                      omega)
  rw [PI, this, scan_nil, List.append_nil] at h
  exact h
/-- what parse257 hands back for a reply with the code 257 -/
def Told257 (x d : Str) : Prop := (Txt.slice x none (some 3) != Str.ofString "257") = false ∧
  (((Txt.slice x (some 3) (some 5) != Str.ofString " \"") = true ∧ d = Str.ofString "") ∨ ((Txt.slice x (some 3) (some 5) != Str.ofString " \"") = false ∧ d.cps.toList = scan (x.cps.toList.drop 5)))
end Mine
end

section
theorem Mine.fresh_C0 : True := by
  w_top off
  k_with_none
  trivial
open PySem PySem.W PyProof.Rows
set_option Elab.async false
set_option maxRecDepth 100000
namespace Mine
theorem hide {p : Prop} (h : ∀ P : Prop, (p → P) → P) : p := h p id
theorem opq {α : Type} {M : Model} {A : Around} {m : Sem α} {Q : α → Shared → Prop} {E : Value → Shared → Prop} {s : Shared} (P : (α → Shared → Prop) → (Value → Shared → Prop) → Prop) (hP : P Q E) (h : ∀ Q E, P Q E → wpAny M A m Q E s) : wpAny M A m Q E s := h Q E hP
/-- every object stands as it stood -/
def Kp (h h' : Heap) : Prop := ∀ b o, h.get? b = some o → h'.get? b = some o
theorem Kp.rfl' (h : Heap) : Kp h h := fun _ _ e => e
theorem Kp.trans {a b c : Heap} (x : Kp a b) (y : Kp b c) : Kp a c := fun _ _ e => y _ _ (x _ _ e)
theorem Kp.of {H g h' : Heap} {L' : Addr} {m' : Str → Option Value} (G : GSub H g ((([] : List (Addr × Obj))).map (·.1))) (F' : Fr g L' h' m') : Kp H h' := fun b o e => F'.keep b o (G b o e (fun h => nomatch h))
theorem gKp {H g : Heap} (G : GSub H g ((([] : List (Addr × Obj))).map (·.1))) : Kp H g := fun b o e => G b o e (fun h => nomatch h)
/-- objects that are new -/
def Nw (h h' : Heap) (tl : List (Addr × Obj)) : Prop := ∀ p ∈ tl, h'.get? p.1 = some p.2 ∧ h.get? p.1 = none
theorem Nw.of {H g h' : Heap} {L' : Addr} {tl : List (Addr × Obj)} (G : GSub H g ((([] : List (Addr × Obj))).map (·.1))) (N' : News g L' h' tl) : Nw H h' tl := fun p hp => ⟨(N' p hp).1, by
  cases e : H.get? p.1 with
  | none => rfl
  | some o => have := gKp G _ _ e; rw [(N' p hp).2.2] at this; cases this⟩
theorem Nw.news {h₀ h h' : Heap} {L : Addr} {m : Str → Option Value} {news tl : List (Addr × Obj)} (F : Fr h₀ L h m) (N : News h₀ L h news) (k : Kp h h') (w : Nw h h' tl) : News h₀ L h' (tl ++ news) := fun p hp => by
  rcases List.mem_append.mp hp with hp | hp
  · obtain ⟨a, b⟩ := w p hp
    refine ⟨a, ?_, ?_⟩
    · intro e
      obtain ⟨oL, es, ep, hL, _⟩ := F.ns
      rw [e, hL] at b; cases b
    · cases e : h₀.get? p.1 with
      | none => rfl
      | some o => rw [F.keep _ _ e] at b; cases b
  · exact ⟨k _ _ (N p hp).1, (N p hp).2⟩
theorem Nw.apart {h₀ h h' : Heap} {L : Addr} {news tl : List (Addr × Obj)} (N : News h₀ L h news) (w : Nw h h' tl) : ∀ p ∈ tl, ∀ q ∈ news, p.1 ≠ q.1 := fun p hp q hq e => by
  have a := (w p hp).2
  have b := (N q hq).1
  rw [e, b] at a; cases a
theorem Kp.fr {h₀ h h' : Heap} {L : Addr} {m : Str → Option Value} (F : Fr h₀ L h m) (k : Kp h h') : Fr h₀ L h' m := F.keeps k
theorem fr2 {h₀ h : Heap} {L : Addr} {m : Str → Option Value} {ps : List (Str × Value)} (F : Fr h₀ L h m) (hp : ∀ p ∈ ps, m p.1 = some p.2) : Fr h₀ L h (kstB m ps) := by
  have : kstB m ps = m := by
    funext z
    exact kstB_eq hp fun _ => rfl
  rw [this]; exact F
theorem updApp {d : Addr} {o o' : Obj} {pre r r' : List (Addr × Obj)} (h : ∀ p ∈ pre, p.1 ≠ d) (u : Upd d o o' r r') : Upd d o o' (pre ++ r) (pre ++ r') := by
  induction pre with
  | nil => exact u
  | cons p pre ih => exact .tail (h p (.head _)) (ih fun q hq => h q (.tail _ hq))
set_option maxHeartbeats 8000000
theorem sifmt (w : World) (loose : List Str) (mean : ExcName → Option Value) (mg mb : Str → Option Value)
   (dp un : Nat) (gd : Option (List Code)) (cn : Str) (cs : Scope) (a : Addr) (ccd : Value) (cl : List (Str × Addr)) (outer : List Env) (A₀ : Around) (base h₀ : Heap) (L : Addr) (m : Str → Option Value) (s : Shared) (n : Int) (tx : Tok)
    (Q E : Value → Shared → Prop) (B : Below A₀ base outer h₀) (F : Fr h₀ L s.heap m) (X : (hd.heap_39 w.params).In h₀) (T : Top hd.view_39 loose mean mg mb h₀) (hk : cs.kind = .function)
    (hd1 : dp + 10 < recursionLimit)
    (hret : ∀ t h' tk', Kp s.heap h' → Q (.int (Builtin.bitAnd n 61440) t) { s with heap := h', toks := tk' }) :
    wpAny (model PySem.Challenge.rw_om0036_01.row.prog w) (ktrTop dp un gd cn cs L a ccd cl outer) (call (.ref 53) [.int n tx]) Q E s := by
  revert X
  k_fill
  intro X
  refine wpAny_call ?_
  k_dflt (refine' code_defG ?k1 ?k2 ?k3 ?k4 ?k5 ?kA ?kF ?kK ?k6 ?k7 ?k8 ?k9 ?kB ?_ ?c2 ?c3 ?c4 ?c5; (case kA => exact rfl); (case kF => exact rfl); (case kK => assumption); (case k1 => k_asm); (case k2 => k_asm); (case k3 => k_asm); (case k4 => exact News.nil); (case k5 => k_asm); (case k6 => k_is); (case k7 => k_is); (case k8 => ktr_room); (case k9 => exact BindsTo.of_eq rfl); (case c5 => decide); (case kB => exact locs rfl); (case c2 => exact rfl); (case c3 => exact rfl); (case c4 => exact rfl); k_whole; intro g' L' h' FG' F' N' B' X' T' GS'; (try dsimp only); (try k_fold))
  k_steps
  exact hret _ _ _ (.of (by assumption) (by assumption))
end Mine
end

section
open PySem PySem.W PyProof.Rows
set_option Elab.async false
set_option maxRecDepth 100000
namespace Mine
/-- no step takes a token back -/
theorem runs_toks {M : Model} {Γ : Ctx} {p : Pos} {t : Sem PySem.Fin} {fs : List Frame} {s : Shared} {e : End} {s' : Shared} (h : Runs M Γ p t fs s e s') : s.toks ≤ s'.toks := by
  induction h with
  | done => exact Nat.le_refl _
  | raise => exact Nat.le_refl _
  | yield => exact Nat.le_refl _
  | fresh _ ih => exact Nat.le_of_succ_le ih
  | call _ _ ih1 ih2 => exact Nat.le_trans ih1 ih2
  | resumeFresh _ _ _ _ ih1 ih2 => exact Nat.le_trans ih1 ih2
  | resumeSuspended _ _ _ _ ih1 ih2 => exact Nat.le_trans ih1 ih2
  | segRet _ _ ih1 ih2 => exact Nat.le_trans ih1 ih2
  | segGen _ _ ih1 ih2 => exact Nat.le_trans ih1 ih2
  | segSuspGen _ _ _ _ ih1 ih2 => exact Nat.le_trans ih1 ih2
  | _ => assumption
theorem wakes_toks {M : Model} {Γ : Ctx} {p : Pos} {g : Nat} {r : Resume} {s : Shared} {res : GenResult} {s' : Shared} (h : Wakes M Γ p g r s res s') : s.toks ≤ s'.toks := by
  unfold Wakes at h
  repeat' (split at h)
  all_goals first
    | exact h.elim
    | (obtain ⟨_, e⟩ := h; rw [e]; exact Nat.le_refl _)
    | (obtain ⟨e₁, s₁, hr, _, _, e⟩ := h; rw [e]; have q := runs_toks hr; exact q)
theorem wp_toks {α : Type} {M : Model} {Γ : Ctx} {t : Sem α} : ∀ {Q : α → Pos → Shared → Prop} {E : Value → Pos → Shared → Prop} {p : Pos} {s : Shared},
    Sem.wp M Γ t (fun a p' s' => s.toks ≤ s'.toks → Q a p' s') (fun e p' s' => s.toks ≤ s'.toks → E e p' s') p s → Sem.wp M Γ t Q E p s := by
  have key : ∀ (t : Sem α) (n : Nat) {Q : α → Pos → Shared → Prop} {E : Value → Pos → Shared → Prop} {p : Pos} {s : Shared}, n ≤ s.toks →
      Sem.wp M Γ t (fun a p' s' => n ≤ s'.toks → Q a p' s') (fun e p' s' => n ≤ s'.toks → E e p' s') p s → Sem.wp M Γ t Q E p s := by
    intro t
    induction t with
    | pure a => intro n Q E p s hn h; exact h hn
    | raise e => intro n Q E p s hn h; exact h hn
    | unsupported => intro n Q E p s hn h; exact h
    | finish => intro n Q E p s hn h; exact h
    | rule _ k ih => intro n Q E p s hn h; exact ih () n hn h
    | «at» _ k ih => intro n Q E p s hn h; exact ih () n hn h
    | load a q k ih => intro n Q E p s hn h; obtain ⟨o, ho, h⟩ := h; exact ⟨o, ho, ih o n hn h⟩
    | update a q f k ih => intro n Q E p s hn h; exact ⟨h.1, ih () n (s := { s with heap := s.heap.update a f }) hn h.2⟩
    | alloc o k ih => intro n Q E p s hn h; exact ih _ n (s := { s with heap := s.heap.push o }) hn h
    | loadIfAlive a k ih => intro n Q E p s hn h; exact ih _ n hn h
    | point _ k ih => intro n Q E p s hn h; exact ih () n hn h
    | register => intro n Q E p s hn h; exact h
    | fresh k ih => intro n Q E p s hn h; exact ih _ n (s := { s with toks := s.toks + 1 }) (Nat.le_succ_of_le hn) h
    | ask k ih => intro n Q E p s hn h; exact ih _ n hn h
    | choose src m k ih => intro n Q E p s hn h; exact ⟨h.1, ih _ n (s := { s with drawn := s.drawn.bump src }) hn h.2⟩
    | os q l k ih => intro n Q E p s hn h; exact ih _ n (s := { s with os := (Os.step s.os q).1 }) hn h
    | call c hd g l k ih =>
      intro n Q E p s hn h
      obtain ⟨r, s', hr, h⟩ := h
      exact ⟨r, s', hr, ih r n (Nat.le_trans hn (runs_toks hr)) h⟩
    | handled own k ih => intro n Q E p s hn h; exact ih _ n hn h
    | newGen c k ih => intro n Q E p s hn h; exact ih _ n (s := { s with gens := s.gens.push (.fresh c) }) hn h
    | genState g k ih => intro n Q E p s hn h; obtain ⟨st, hs, h⟩ := h; exact ⟨st, hs, ih _ n hn h⟩
    | resume g r l k ih =>
      intro n Q E p s hn h
      obtain ⟨res, s', hw, h⟩ := h
      exact ⟨res, s', hw, ih res n (Nat.le_trans hn (wakes_toks hw)) h⟩
    | yield => intro n Q E p s hn h; exact h
    | stack k ih => intro n Q E p s hn h; exact ih _ n hn h
    | fork => intro n Q E p s hn h; exact h
    | thread k ih => intro n Q E p s hn h; exact ih _ n hn h
    | await => intro n Q E p s hn h; exact h
  intro Q E p s h
  exact key t s.toks (Nat.le_refl _) h
section
variable {α : Type} {prog : Program} {w : World} {A : Around} {E : Value → Shared → Prop} {s : Shared}
theorem wpAny_toks {M : Model} {t : Sem α} {Q : α → Shared → Prop} (h : wpAny M A t (fun a s' => s.toks ≤ s'.toks → Q a s') (fun e s' => s.toks ≤ s'.toks → E e s') s) : wpAny M A t Q E s :=
  fun Γ p hΓ => wp_toks (h Γ p hΓ)
/-- between two statements it is known that a token has been given -/
theorem execs_consT {M : Model} {env : Env} {st : Stmt} {rest : List Stmt} {Q : Flow → Shared → Prop} (hpos : 0 < s.toks)
    (h : wpAny M A (exec st env) (fun f s' => match f with | .next => 0 < s'.toks → wpAny M A (execs rest env) Q E s' | f => Q f s') E s) :
    wpAny M A (execs (st :: rest) env) Q E s := by
  refine wpAny_execs_cons (wpAny_toks (wpAny_mono h (fun f s' h' hle => ?_) fun _ _ e _ => e))
  cases f with
  | next => exact h' (Nat.lt_of_lt_of_le hpos hle)
  | brk => exact h'
  | cont => exact h'
  | ret v => exact h'
theorem addT {x y : Str} {t u : Tok} {Q : Value → Shared → Prop} (hpos : 0 < s.toks) (hsz : x.length + y.length ≤ sizeLine)
    (h : ∀ t' k, 0 < k → (x ++ y).length = x.length + y.length → Q (.str (x ++ y) t') { s with toks := k }) : wpAny (model prog w) A (binaryOp .Add (.str x t) (.str y u)) Q E s :=
  wpAny_toks (PyProof.Rows.add_str (fun t' k hle => h t' k (Nat.lt_of_lt_of_le hpos hle) (Str.length_append ..)) hsz)
end
end Mine
end

section
open PySem PySem.W PyProof.Rows PySem.Calls
set_option Elab.async false
set_option maxRecDepth 100000
set_option linter.all false
namespace Mine
theorem dInt {G : List (Addr × Obj)} {v : Value} {i : Int} {Q : Value → Prop} (d : DatIn G v (.int i)) (k : ∀ t, Q (.int i t)) : Q v := by cases d; exact k _
theorem dStr {G : List (Addr × Obj)} {v : Value} {x : Str} {Q : Value → Prop} (d : DatIn G v (.str x)) (k : ∀ t, Q (.str x t)) : Q v := by cases d; exact k _
theorem dBool {G : List (Addr × Obj)} {v : Value} {b : Bool} {Q : Value → Prop} (d : DatIn G v (.bool b)) (k : Q (.bool b)) : Q v := by cases d; exact k
theorem dNone {G : List (Addr × Obj)} {v : Value} {Q : Value → Prop} (d : DatIn G v .none) (k : Q .none) : Q v := by cases d; exact k
theorem daNil {G : List (Addr × Obj)} {vs : List Value} {Q : List Value → Prop} (d : DatAll G vs []) (k : Q []) : Q vs := by cases d; exact k
theorem daCons {G : List (Addr × Obj)} {vs : List Value} {d : Dat} {ds : List Dat} {Q : List Value → Prop} (h : DatAll G vs (d :: ds)) (k : ∀ v r, DatIn G v d → DatAll G r ds → Q (v :: r)) : Q vs := by
  cases h with
  | cons a b => exact k _ _ a b
theorem iInt {G : List (Addr × Obj)} {v : Value} {i : Int} (d : DatIn G v (.int i)) : ∃ t, v = .int i t := by cases d; exact ⟨_, rfl⟩
theorem iStr {G : List (Addr × Obj)} {v : Value} {x : Str} (d : DatIn G v (.str x)) : ∃ t, v = .str x t := by cases d; exact ⟨_, rfl⟩
theorem da2 {G : List (Addr × Obj)} {vs : List Value} {a b : Dat} (d : DatAll G vs [a, b]) : ∃ v u, vs = [v, u] ∧ DatIn G v a ∧ DatIn G u b := by
  cases d with
  | cons d1 r =>
  cases r with
  | cons d2 r =>
  cases r
  exact ⟨_, _, rfl, d1, d2⟩
theorem noAt {h : Heap} {b c : Addr} {o : Obj} (q : b = c) (e : h.get? b = some o) (n : h.get? c = none) : False := by rw [q, n] at e; cases e
theorem noIs {h : Heap} {b c : Addr} {o : Obj} (q : b = c) (n : h.get? b = none) (e : h.get? c = some o) : False := by rw [q, e] at n; cases n
theorem ns_ne {h : Heap} {L D : Addr} {m : Str → Option Value} (n : h.Ns L m) (d : h.get? D = none) : D ≠ L := fun q => by
  obtain ⟨o, _, _, e, _⟩ := n
  exact noIs q d e
theorem noBoth {α : Type} {a : Option α} {o : α} (n : a = none) (e : a = some o) : False := by rw [n] at e; cases e
abbrev Ldg := List (Addr × Obj)
def Led (G : Ldg) (h : Heap) : Prop := ∀ p ∈ G, h.get? p.1 = some p.2
/-- the heap has grown from h to h', the frozen objects from G to G' ; L is the frame at hand -/
structure Ext (L : Addr) (G : Ldg) (h : Heap) (G' : Ldg) (h' : Heap) : Prop where
  kp : ∀ b o, b ≠ L → h.get? b = some o → h'.get? b = some o
  ns : ∀ m, h.Ns L m → h'.Ns L m
  sub : ∀ p ∈ G, p ∈ G'
  fresh : ∀ p ∈ G', p ∈ G ∨ (h.get? p.1 = none ∧ p.1 ≠ L)
  led : Led G' h'
section
variable {L : Addr} {G G' G'' : Ldg} {h h' h'' : Heap}
theorem Ext.rfl' (l : Led G h) : Ext L G h G h := ⟨fun _ _ _ e => e, fun _ e => e, fun _ hp => hp, fun _ hp => .inl hp, l⟩
theorem Ext.gone (x : Ext L G h G' h') {b : Addr} (hb : b ≠ L) (e : h'.get? b = none) : h.get? b = none := by
  cases q : h.get? b with
  | none => rfl
  | some o => rw [x.kp b o hb q] at e; cases e
theorem Ext.trans (x : Ext L G h G' h') (y : Ext L G' h' G'' h'') : Ext L G h G'' h'' :=
  ⟨fun b o hb e => y.kp b o hb (x.kp b o hb e), fun m e => y.ns m (x.ns m e), fun p hp => y.sub p (x.sub p hp), fun p hp => by
    rcases y.fresh p hp with q | ⟨q, r⟩
    · exact x.fresh p q
    · exact .inr ⟨x.gone r q, r⟩, y.led⟩
theorem Ext.of_kp (l : Led G h) (k : Kp h h') : Ext L G h G h' :=
  ⟨fun b o _ e => k b o e, fun m e => e.at' fun o q => k _ _ q, fun _ hp => hp, fun _ hp => .inl hp, fun p hp => k _ _ (l p hp)⟩
/-- new objects are frozen -/
theorem Ext.more (x : Ext L G h G' h') {tl : Ldg} (l : Led tl h') (f : ∀ p ∈ tl, h.get? p.1 = none ∧ p.1 ≠ L) : Ext L G h (tl ++ G') h' :=
  ⟨x.kp, x.ns, fun p hp => List.mem_append_right _ (x.sub p hp), fun p hp => (List.mem_append.mp hp).elim (fun q => .inr (f p q)) (x.fresh p), fun p hp => (List.mem_append.mp hp).elim (l p) (x.led p)⟩
end
/-- all objects but L -/
def objsBut (L : Addr) (h : Heap) : Ldg := (List.range h.objs.size).filterMap fun a => if a = L then none else (h.get? a).map fun o => (a, o)
theorem mem_objsBut {L a : Addr} {o : Obj} {h : Heap} : (a, o) ∈ objsBut L h ↔ h.get? a = some o ∧ a ≠ L := by
  unfold objsBut
  rw [List.mem_filterMap]
  constructor
  · rintro ⟨b, hb, e⟩
    by_cases hbL : b = L
    · rw [if_pos hbL] at e; cases e
    · rw [if_neg hbL] at e
      cases q : h.get? b with
      | none => (first | exact noBoth q e | exact noBoth e q | exact (noBoth q e).elim | exact (noBoth e q).elim | (rw [q] at e; cases e))
      | some o' =>
        rw [q] at e
        have e' : (b, o') = (a, o) := Option.some.inj e
        cases e'
        exact ⟨q, hbL⟩
  · rintro ⟨e, hb⟩
    exact ⟨a, List.mem_range.mpr (Heap.lt_size e), by rw [if_neg hb, e]; rfl⟩
def hp0 : Heap := {}
theorem hp0_get (b : Addr) : hp0.get? b = none := by
  show (match (#[] : Array Obj)[b]? with | some ⟨_, _, .freed, _⟩ => none | o => o) = none
  simp
section
variable {L : Addr} {G : Ldg} {h h' : Heap} {m : Str → Option Value}
theorem ns_uniq {m₂ : Str → Option Value} (a : h.Ns L m) (b : h.Ns L m₂) : m = m₂ := by
  obtain ⟨o, es, ep, e, d, _, f⟩ := a
  obtain ⟨o', es', ep', e', d', _, f'⟩ := b
  (first | exact noBoth e e' | exact noBoth e' e | exact (noBoth e e').elim | exact (noBoth e' e).elim | (rw [e] at e'; cases e'))
  (first | exact noBoth d d' | exact noBoth d' d | exact (noBoth d d').elim | exact (noBoth d' d).elim | (rw [d] at d'; cases d'))
  funext z
  rw [← f z, ← f' z]
/-- the library's rules over a frame and a ledger, used at the empty base -/
theorem useF (n : h.Ns L m) : Fr hp0 L h m := ⟨n, fun b o e => (by (first | exact noBoth hp0_get e | exact noBoth e hp0_get | exact (noBoth hp0_get e).elim | exact (noBoth e hp0_get).elim | (rw [hp0_get] at e; cases e))), Nat.zero_le _⟩
theorem useN : News hp0 L h (objsBut L h) := fun p hp => by
  obtain ⟨a, o⟩ := p
  obtain ⟨e, q⟩ := mem_objsBut.mp hp
  exact ⟨e, q, hp0_get _⟩
theorem backFN (l : Led G h) (n : h.Ns L m) (offL : ∀ p ∈ G, p.1 ≠ L) (F : Fr hp0 L h' m) {tl : Ldg} (N : News hp0 L h' (tl ++ objsBut L h)) (f : ∀ p ∈ tl, h.get? p.1 = none) : Ext L G h (tl ++ G) h' := by
  have kp : ∀ b o, b ≠ L → h.get? b = some o → h'.get? b = some o := fun b o hb e => (N (b, o) (List.mem_append_right _ (mem_objsBut.mpr ⟨e, hb⟩))).1
  refine ⟨kp, fun m₂ n₂ => ns_uniq n n₂ ▸ F.ns, fun p hp => List.mem_append_right _ hp, fun p hp => ?_, fun p hp => ?_⟩
  · rcases List.mem_append.mp hp with q | q
    · exact .inr ⟨f p q, (N p (List.mem_append_left _ q)).2.1⟩
    · exact .inl q
  · rcases List.mem_append.mp hp with q | q
    · exact (N p (List.mem_append_left _ q)).1
    · exact kp _ _ (offL p q) (l p q)
end
/-- the frame at hand in a predicate -/
structure FrameOk (h₀ : Heap) (L : Addr) (P : Ldg → Heap → Prop) : Prop where
  stab : ∀ G h G' h', P G h → Ext L G h G' h' → P G' h'
  fr : ∀ G h, P G h → ∃ m, Fr h₀ L h m
  off : ∀ G h, P G h → ∀ p ∈ G, p.1 ≠ L
theorem FrameOk.ns {h₀ : Heap} {L : Addr} {P : Ldg → Heap → Prop} (st : FrameOk h₀ L P) (G : Ldg) (h : Heap) (hP : P G h) : ∃ m, h.Ns L m := (st.fr G h hP).imp fun _ F => F.ns
/-- an expression gives a datum -/
structure Ev (prog : Program) (w : World) (A : Around) (L : Addr) (env : Env) (P : Ldg → Heap → Prop) (e : PySem.Expr) (d : Dat) : Prop where
  run : ∀ (s : Shared) (G : Ldg) (Q E : Value → Shared → Prop), 0 < s.toks → P G s.heap → Led G s.heap →
    (∀ v h' tk G', 0 < tk → Ext L G s.heap G' h' → DatIn G' v d → Q v { s with heap := h', toks := tk }) → wpAny (model prog w) A (eval e env) Q E s
structure EvT (prog : Program) (w : World) (A : Around) (L : Addr) (env : Env) (P : Ldg → Heap → Prop) (e : PySem.Expr) (b : Bool) : Prop where
  run : ∀ (s : Shared) (G : Ldg) (Q : Bool → Shared → Prop) (E : Value → Shared → Prop), 0 < s.toks → P G s.heap → Led G s.heap →
    (∀ h' tk G', 0 < tk → Ext L G s.heap G' h' → Q b { s with heap := h', toks := tk }) → wpAny (model prog w) A (isTrue e env (eval e env)) Q E s
structure EvL (prog : Program) (w : World) (A : Around) (L : Addr) (env : Env) (P : Ldg → Heap → Prop) (es : List PySem.Expr) (ds : List Dat) : Prop where
  run : ∀ (pos : Pos) (s : Shared) (G : Ldg) (Q : List Value → Shared → Prop) (E : Value → Shared → Prop), 0 < s.toks → P G s.heap → Led G s.heap →
    (∀ vs h' tk G', 0 < tk → Ext L G s.heap G' h' → DatAll G' vs ds → Q vs { s with heap := h', toks := tk }) → wpAny (model prog w) A (spliced (backTo pos (starEach es env))) Q E s
section
variable {prog : Program} {w : World} {A : Around} {h₀ : Heap} {L : Addr} {env : Env} {P : Ldg → Heap → Prop}
theorem wpToks {α : Type} {M : Model} {t : Sem α} {s : Shared} {Q : α → Shared → Prop} {E : Value → Shared → Prop} (hp : 0 < s.toks) (h : wpAny M A t (fun a s' => 0 < s'.toks → Q a s') E s) : wpAny M A t Q E s :=
  wpAny_toks (wpAny_mono h (fun _ _ q hle => q (Nat.lt_of_lt_of_le hp hle)) fun _ _ e _ => e)
/-- the tokens tell themselves -/
theorem Ev.of {e : PySem.Expr} {d : Dat} (h : ∀ (s : Shared) (G : Ldg) (Q E : Value → Shared → Prop), 0 < s.toks → P G s.heap → Led G s.heap →
    (∀ v h' tk G', Ext L G s.heap G' h' → DatIn G' v d → Q v { s with heap := h', toks := tk }) → wpAny (model prog w) A (eval e env) Q E s) : Ev prog w A L env P e d :=
  ⟨fun s G Q E hp hP hl k => wpToks hp (h s G _ E hp hP hl fun v h' tk G' x dd ht => k v h' tk G' ht x dd)⟩
theorem EvL.nil : EvL prog w A L env P [] [] := ⟨fun _ s _ _ _ hp _ hl k => wpAny_items_nil (k [] s.heap s.toks _ hp (.rfl' hl) .nil)⟩
theorem EvL.cons (st : FrameOk h₀ L P) {e : PySem.Expr} {es : List PySem.Expr} {d : Dat} {ds : List Dat} (h : Ev prog w A L env P e d) (r : EvL prog w A L env P es ds)
    (he : starEach (e :: es) env = (false, eval e env) :: starEach es env := by rfl) : EvL prog w A L env P (e :: es) (d :: ds) := ⟨fun pos s G Q E hp hP hl k =>
  wpAny_items_cons (h.run s G _ _ hp hP hl fun v h' tk G' hp' x dv => r.run pos _ G' _ _ hp' (st.stab _ _ _ _ hP x) x.led fun vs h'' tk' G'' hp'' y dvs =>
    k (v :: vs) h'' tk' G'' hp'' (x.trans y) (.cons (dv.mono y.sub) dvs)) he⟩
theorem Ev.cNone {k pos} : Ev prog w A L env P (.Constant .none k pos) .none := Ev.of fun s _ _ _ _ _ hl q => Constant_none (q _ s.heap s.toks _ (.rfl' hl) .none)
theorem Ev.cBool {b k pos} : Ev prog w A L env P (.Constant (.bool b) k pos) (.bool b) := Ev.of fun s _ _ _ _ _ hl q => Constant_bool (q _ s.heap s.toks _ (.rfl' hl) (.bool b))
theorem Ev.cInt {i k pos} : Ev prog w A L env P (.Constant (.int i) k pos) (.int i) := Ev.of fun s _ _ _ _ _ hl q => wpAny_Constant_int (q _ s.heap _ _ (.rfl' hl) (.int i _))
theorem Ev.cStr {x : Str} {k pos} : Ev prog w A L env P (.Constant (.str x) k pos) (.str x) := Ev.of fun s _ _ _ _ _ hl q => wpAny_Constant_str (q _ s.heap _ _ (.rfl' hl) (.str x _))
theorem push_ext {s : Shared} {G : Ldg} (st : FrameOk h₀ L P) (hP : P G s.heap) (hl : Led G s.heap) (o : Obj) (hf : ∀ x y z, o ≠ ⟨x, y, .freed, z⟩) : Ext L G s.heap ((s.heap.objs.size, o) :: G) (s.heap.push o) := by
  obtain ⟨m, n⟩ := st.ns _ _ hP
  have k : Kp s.heap (s.heap.push o) := fun b o' e => Heap.get?_push_of_some _ e
  refine (Ext.of_kp hl k).more (tl := [(s.heap.objs.size, o)]) (fun p hp => ?_) fun p hp => ?_
  · rw [List.mem_singleton] at hp; subst hp
    refine Heap.get?_push_size _ ?_
    have := hf
    cases o with
    | mk a b c d => cases c <;> first | rfl | exact absurd rfl (hf a b d)
  · rw [List.mem_singleton] at hp; subst hp
    exact ⟨Heap.get?_none_of_le (Nat.le_refl _), Nat.ne_of_gt n.lt⟩
theorem Ev.list (st : FrameOk h₀ L P) {es : List PySem.Expr} {ds : List Dat} {pos : Pos} (h : EvL prog w A L env P es ds) (hsz : ds.length ≤ sizeLine := by first | decide | (simp only [List.length_cons, List.length_nil]; decide)) : Ev prog w A L env P (.List es pos) (.list ds) :=
  Ev.of fun s G Q E hp hP hl k => wpAny_List (h.run pos s G _ E hp hP hl fun vs h' tk G' hp' x dvs => ⟨by rw [dvs.length]; exact hsz, by
    refine k _ _ _ _ (x.trans (push_ext (s := { s with heap := h', toks := tk }) st (st.stab _ _ _ _ hP x) x.led (W.listOf vs.toArray 0) (fun _ _ _ e => by cases e))) ?_
    exact .list (n := 0) (.head _) (dvs.mono fun p q => .tail _ q)⟩)
end
end Mine
end

section
open PySem PySem.W PyProof.Rows PySem.Calls
set_option Elab.async false
set_option maxRecDepth 100000
set_option linter.all false
namespace Mine
/-- two data under an operator, a datum -/
structure BinD (prog : Program) (w : World) (A : Around) (L : Addr) (op : Operator) (d₁ d₂ d : Dat) : Prop where
  run : ∀ (s : Shared) (G : Ldg) (m : Str → Option Value) (v₁ v₂ : Value) (Q E : Value → Shared → Prop), 0 < s.toks → Led G s.heap → s.heap.Ns L m → (∀ p ∈ G, p.1 ≠ L) → DatIn G v₁ d₁ → DatIn G v₂ d₂ →
    (∀ v h' tk G', Ext L G s.heap G' h' → DatIn G' v d → Q v { s with heap := h', toks := tk }) → wpAny (model prog w) A (binaryOp op v₁ v₂) Q E s
/-- two data compared -/
structure CmpD (prog : Program) (w : World) (A : Around) (L : Addr) (op : CmpOp) (d₁ d₂ : Dat) (b : Bool) : Prop where
  run : ∀ (s : Shared) (G : Ldg) (m : Str → Option Value) (v₁ v₂ : Value) (Q E : Value → Shared → Prop), 0 < s.toks → Led G s.heap → s.heap.Ns L m → (∀ p ∈ G, p.1 ≠ L) → DatIn G v₁ d₁ → DatIn G v₂ d₂ →
    (∀ h' tk G', Ext L G s.heap G' h' → Q (.bool b) { s with heap := h', toks := tk }) → wpAny (model prog w) A (compareOp op v₁ v₂) Q E s
section
variable {prog : Program} {w : World} {A : Around} {h₀ : Heap} {L : Addr} {env : Env} {P : Ldg → Heap → Prop}
theorem Ev.loc {x : Str} {pos : Pos} {d : Dat} (hP : ∀ G h, P G h → ∃ m v, h.Ns env.locals m ∧ m x = some v ∧ DatIn G v d) (hk : env.scope.kind = .function := by kernel_rfl!) (hx : env.kindOf x = some .local := by kernel_rfl!) (hd : (x == ("__debug__" : Str)) = false := by kernel_rfl!) :
    Ev prog w A L env P (.Name x pos) d := Ev.of fun s G Q E _ h hl k => by
  obtain ⟨m, v, n, e, dv⟩ := hP _ _ h
  exact wpAny_Name (wpAny_loadName_local hk hx n e (k v s.heap s.toks G (.rfl' hl) dv)) hd
theorem Ev.cell {x : Str} {pos : Pos} {d : Dat} {c : Addr} (hP : ∀ G h, P G h → ∃ v, h.IsCell c (some v) ∧ DatIn G v d) (hk : env.scope.kind = .function := by kernel_rfl!) (hx : env.kindOf x = some .cell := by kernel_rfl!) (hc : env.cells.lookup x = some c := by kernel_rfl!) (hd : (x == ("__debug__" : Str)) = false := by kernel_rfl!) :
    Ev prog w A L env P (.Name x pos) d := Ev.of fun s G Q E _ h hl k => by
  obtain ⟨v, n, dv⟩ := hP _ _ h
  exact wpAny_Name (wpAny_loadName_cell hk hx hc n (k v s.heap s.toks G (.rfl' hl) dv)) hd
theorem Ev.free {x : Str} {pos : Pos} {d : Dat} {c : Addr} (hP : ∀ G h, P G h → ∃ v, h.IsCell c (some v) ∧ DatIn G v d) (hk : env.scope.kind = .function := by kernel_rfl!) (hx : env.kindOf x = some .free := by kernel_rfl!) (hc : env.cells.lookup x = some c := by kernel_rfl!) (hd : (x == ("__debug__" : Str)) = false := by kernel_rfl!) (hn : (x == ("__classdict__" : Str)) = false := by kernel_rfl!) :
    Ev prog w A L env P (.Name x pos) d := Ev.of fun s G Q E _ h hl k => by
  obtain ⟨v, n, dv⟩ := hP _ _ h
  exact wpAny_Name (wpAny_loadName_free hk hx hc n (k v s.heap s.toks G (.rfl' hl) dv) hn) hd
theorem Ev.bin (st : FrameOk h₀ L P) {l r : PySem.Expr} {op : Operator} {pos : Pos} {d₁ d₂ d : Dat} (h₁ : Ev prog w A L env P l d₁) (h₂ : Ev prog w A L env P r d₂) (b : BinD prog w A L op d₁ d₂ d) : Ev prog w A L env P (.BinOp l op r pos) d :=
  Ev.of fun s G Q E hp hP hl k => wpAny_BinOp (h₁.run s G _ _ hp hP hl fun v h' tk G' hp' x dv => by
    refine h₂.run _ G' _ _ hp' (st.stab _ _ _ _ hP x) x.led fun v₂ h'' tk' G'' hp'' y dv₂ => ?_
    have hP'' := st.stab _ _ _ _ (st.stab _ _ _ _ hP x) y
    obtain ⟨m, n⟩ := st.ns _ _ hP''
    exact b.run _ G'' m v v₂ _ _ hp'' y.led n (st.off _ _ hP'') (dv.mono y.sub) dv₂ fun v₃ h₃ tk₃ G₃ z d₃ => k v₃ h₃ tk₃ G₃ ((x.trans y).trans z) d₃)
theorem Ev.cmp (st : FrameOk h₀ L P) {l r : PySem.Expr} {op : CmpOp} {pos : Pos} {d₁ d₂ : Dat} {c : Bool} (h₁ : Ev prog w A L env P l d₁) (h₂ : Ev prog w A L env P r d₂) (b : CmpD prog w A L op d₁ d₂ c) (hm : behindInMarks op r = false := by with_unfolding_all rfl) : Ev prog w A L env P (.Compare l [op] [r] pos) (.bool c) :=
  Ev.of fun s G Q E hp hP hl k => wpAny_Compare1 (h₁.run s G _ _ hp hP hl fun v h' tk G' hp' x dv => by
    refine h₂.run _ G' _ _ hp' (st.stab _ _ _ _ hP x) x.led fun v₂ h'' tk' G'' hp'' y dv₂ => ?_
    have hP'' := st.stab _ _ _ _ (st.stab _ _ _ _ hP x) y
    obtain ⟨m, n⟩ := st.ns _ _ hP''
    exact b.run _ G'' m v v₂ _ _ hp'' y.led n (st.off _ _ hP'') (dv.mono y.sub) dv₂ fun h₃ tk₃ G₃ z => k _ h₃ tk₃ G₃ ((x.trans y).trans z) (.bool c)) hm
theorem EvT.cmp (st : FrameOk h₀ L P) {l r : PySem.Expr} {op : CmpOp} {pos : Pos} {d₁ d₂ : Dat} {c : Bool} (h₁ : Ev prog w A L env P l d₁) (h₂ : Ev prog w A L env P r d₂) (b : CmpD prog w A L op d₁ d₂ c) (hm : behindInMarks op r = false := by with_unfolding_all rfl) : EvT prog w A L env P (.Compare l [op] [r] pos) c :=
  ⟨fun s G Q E hp hP hl k => wpToks hp (wpAny_isTrue_Compare1 (h₁.run s G _ _ hp hP hl fun v h' tk G' hp' x dv => by
    refine h₂.run _ G' _ _ hp' (st.stab _ _ _ _ hP x) x.led fun v₂ h'' tk' G'' hp'' y dv₂ => ?_
    have hP'' := st.stab _ _ _ _ (st.stab _ _ _ _ hP x) y
    obtain ⟨m, n⟩ := st.ns _ _ hP''
    exact b.run _ G'' m v v₂ _ _ hp'' y.led n (st.off _ _ hP'') (dv.mono y.sub) dv₂ fun h₃ tk₃ G₃ z => wpAny_truthy_bool fun hp₃ => k h₃ tk₃ G₃ hp₃ ((x.trans y).trans z)) hm)⟩
/-- a test that is no comparison: a bool by name or call -/
theorem EvT.val {e : PySem.Expr} {c : Bool} (h : Ev prog w A L env P e (.bool c)) (he : isTrue e env (eval e env) = (do let v ← eval e env; standAt e.pos; holding [v] (truthy v)) := by rfl) : EvT prog w A L env P e c :=
  ⟨fun s G Q E hp hP hl k => isTrue_plain (h.run s G _ _ hp hP hl fun v h' tk G' hp' x dv => by (first | (apply dInt (v := v) dv; intro _) | (apply dStr (v := v) dv; intro _) | apply dBool (v := v) dv | apply dNone (v := v) dv); exact wpAny_truthy_bool (k h' tk G' hp' x)) he⟩
theorem EvT.or2 (st : FrameOk h₀ L P) {x y : PySem.Expr} {pos : Pos} {a b : Bool} (h₁ : EvT prog w A L env P x a) (h₂ : a = false → EvT prog w A L env P y b) : EvT prog w A L env P (.BoolOp .Or [x, y] pos) (a || b) :=
  ⟨fun s G Q E hp hP hl k => isTrue_or (h₁.run s G _ _ hp hP hl fun h' tk G' hp' z => by
    cases a with
    | true => exact k h' tk G' hp' z
    | false => exact isTrue_or ((h₂ rfl).run _ G' _ _ hp' (st.stab _ _ _ _ hP z) z.led fun h'' tk' G'' hp'' z' => by
        cases b with
        | true => exact k h'' tk' G'' hp'' (z.trans z')
        | false => exact isTrue_or_nil (k h'' tk' G'' hp'' (z.trans z'))))⟩
theorem Ev.ite (st : FrameOk h₀ L P) {t x y : PySem.Expr} {pos : Pos} {c : Bool} {d : Dat} (ht : EvT prog w A L env P t c) (h₁ : c = true → Ev prog w A L env P x d) (h₂ : c = false → Ev prog w A L env P y d) : Ev prog w A L env P (.IfExp t x y pos) d :=
  ⟨fun s G Q E hp hP hl k => IfExp_ (ht.run s G _ _ hp hP hl fun h' tk G' hp' z => by
    cases c with
    | true => exact (h₁ rfl).run _ G' _ _ hp' (st.stab _ _ _ _ hP z) z.led fun v h'' tk' G'' hp'' z' => k v h'' tk' G'' hp'' (z.trans z')
    | false => exact (h₂ rfl).run _ G' _ _ hp' (st.stab _ _ _ _ hP z) z.led fun v h'' tk' G'' hp'' z' => k v h'' tk' G'' hp'' (z.trans z'))⟩
theorem Ev.neg (st : FrameOk h₀ L P) {x : PySem.Expr} {pos : Pos} {i : Int} (h : Ev prog w A L env P x (.int i)) : Ev prog w A L env P (.UnaryOp .USub x pos) (.int (-i)) :=
  Ev.of fun s G Q E hp hP hl k => UnaryOp_ (h.run s G _ _ hp hP hl fun v h' tk G' hp' z dv => by (first | (apply dInt (v := v) dv; intro _) | (apply dStr (v := v) dv; intro _) | apply dBool (v := v) dv | apply dNone (v := v) dv); exact PyProof.Rows.neg_int (k _ _ _ _ z (.int _ _)))
inductive IsL (G : Ldg) (h : Heap) (v : Value) (ds : List Dat) : Prop
  | mk (a : Addr) (vs : List Value) (n : Nat) (e : v = .ref a) (hm : (a, W.listOf (List.toArray vs) n) ∈ G) (hg : h.get? a = some (W.listOf (List.toArray vs) n)) (hl : h.IsList a (List.toArray vs)) (r : DatAll G vs ds) : IsL G h v ds
theorem isList_of {G : Ldg} {h : Heap} {v : Value} {ds : List Dat} (l : Led G h) (d : DatIn G v (.list ds)) : IsL G h v ds := by
  cases d with
  | list hm r => exact ⟨_, _, _, rfl, hm, l _ hm, ⟨_, l _ hm, rfl, _, rfl⟩, r⟩
theorem DatAll.get' {G : Ldg} {vs : List Value} {ds : List Dat} (h : DatAll G vs ds) {k : Nat} {d : Dat} (hk : ds[k]? = some d) : ∃ v, vs[k]? = some v ∧ DatIn G v d := by
  obtain ⟨hlt, e⟩ := List.getElem?_eq_some_iff.mp hk
  obtain ⟨v, hv, dv⟩ := h.get hlt
  exact ⟨v, hv, e ▸ dv⟩
/-- an item at a place in bounds -/
theorem Ev.item (st : FrameOk h₀ L P) {x i : PySem.Expr} {pos : Pos} {ds : List Dat} {k : Int} {d : Dat} (h₁ : Ev prog w A L env P x (.list ds)) (h₂ : Ev prog w A L env P i (.int k)) (h0 : 0 ≤ k) (hb : k < 2 ^ 63) (hd : ds[k.toNat]? = some d)
    (hs : ∀ l u, subscripted i false (.ref l) (.int k u) = operate [.ref l, .int k u] (getItem (.ref l) (.int k u)) := by intro _ _; with_unfolding_all rfl) : Ev prog w A L env P (.Subscript x i pos) d :=
  Ev.of fun s G Q E hp hP hl q => Subscript_ (h₁.run s G _ _ hp hP hl fun v h' tk G' hp' z dv => by
    refine h₂.run _ G' _ _ hp' (st.stab _ _ _ _ hP z) z.led fun v₂ h'' tk' G'' hp'' z' dv₂ => ?_
    (first | (apply dInt (v := v₂) dv₂; intro _) | (apply dStr (v := v₂) dv₂; intro _) | apply dBool (v := v₂) dv₂ | apply dNone (v := v₂) dv₂)
    obtain ⟨a, vs, n, rfl, hm, _, hl', r⟩ := isList_of (h := h'') z'.led (dv.mono z'.sub)
    obtain ⟨y, hy, dy⟩ := DatAll.get' r hd
    exact tail_any (ops := [.ref a, .int k _]) (s := { s with heap := h'', toks := tk' }) hl'.typeIs slot_list_getitem.lookup (wpAny_getItem_list hl' h0 hb (by simpa using hy) (q y h'' tk' G'' (z.trans z') dy)) (hs _ _))
theorem Ev.last (st : FrameOk h₀ L P) {x i : PySem.Expr} {pos : Pos} {ds : List Dat} {d : Dat} (h₁ : Ev prog w A L env P x (.list (ds ++ [d]))) (h₂ : Ev prog w A L env P i (.int (-1)))
    (hs : ∀ l u, subscripted i false (.ref l) (.int (-1) u) = operate [.ref l, .int (-1) u] (getItem (.ref l) (.int (-1) u)) := by intro _ _; with_unfolding_all rfl) : Ev prog w A L env P (.Subscript x i pos) d :=
  Ev.of fun s G Q E hp hP hl q => Subscript_ (h₁.run s G _ _ hp hP hl fun v h' tk G' hp' z dv => by
    refine h₂.run _ G' _ _ hp' (st.stab _ _ _ _ hP z) z.led fun v₂ h'' tk' G'' hp'' z' dv₂ => ?_
    (first | (apply dInt (v := v₂) dv₂; intro _) | (apply dStr (v := v₂) dv₂; intro _) | apply dBool (v := v₂) dv₂ | apply dNone (v := v₂) dv₂)
    obtain ⟨a, vs, n, rfl, hm, _, hl', r⟩ := isList_of (h := h'') z'.led (dv.mono z'.sub)
    have hlen := r.length
    rw [List.length_append, List.length_singleton] at hlen
    obtain ⟨y, hy, dy⟩ := DatAll.get' (k := ds.length) (d := d) r (by simp)
    refine tail_any (ops := [.ref a, .int (-1) _]) (s := { s with heap := h'', toks := tk' }) hl'.typeIs slot_list_getitem.lookup (wpAny_getItem_list_neg hl' (by decide) (by rw [List.size_toArray, hlen]; omega) (by decide) ?_ (q y h'' tk' G'' (z.trans z') dy)) (hs _ _)
    rw [List.size_toArray, hlen]
    have : ((-1 : Int) + ((ds.length + 1 : Nat) : Int)).toNat = ds.length := by omega
    rw [this]
    simpa using hy)
/-- a slice's part -/
inductive EvPart (prog : Program) (w : World) (A : Around) (L : Addr) (env : Env) (P : Ldg → Heap → Prop) : Option PySem.Expr → Option Int → Prop
  | no : EvPart prog w A L env P none none
  | at {e : PySem.Expr} {i : Int} : Ev prog w A L env P e (.int i) → EvPart prog w A L env P (some e) (some i)
theorem EvPart.run {x : Option PySem.Expr} {o : Option Int} (h : EvPart prog w A L env P x o) (s : Shared) (G : Ldg) (Q E : Value → Shared → Prop) (hp : 0 < s.toks) (hP : P G s.heap) (hl : Led G s.heap)
    (k : ∀ v h' tk G', 0 < tk → Ext L G s.heap G' h' → IsPart v o → Q v { s with heap := h', toks := tk }) : wpAny (model prog w) A (evalPart x env) Q E s := by
  cases h with
  | no => exact wpAny_pure (k _ s.heap s.toks G hp (.rfl' hl) .none)
  | «at» h => exact h.run s G _ _ hp hP hl fun v h' tk G' hp' x dv => by (first | (apply dInt (v := v) dv; intro _) | (apply dStr (v := v) dv; intro _) | apply dBool (v := v) dv | apply dNone (v := v) dv); exact k _ _ _ _ hp' x (.int _ _)
theorem DatAll.take {G : Ldg} : ∀ {vs : List Value} {ds : List Dat}, DatAll G vs ds → ∀ k : Nat, DatAll G (vs.take k) (ds.take k)
  | _, _, _, 0 => .nil
  | _, _, .nil, _ + 1 => .nil
  | _, _, .cons d r, k + 1 => .cons d (DatAll.take r k)
theorem DatAll.drop {G : Ldg} : ∀ {vs : List Value} {ds : List Dat}, DatAll G vs ds → ∀ k : Nat, DatAll G (vs.drop k) (ds.drop k)
  | _, _, h, 0 => h
  | _, _, .nil, _ + 1 => .nil
  | _, _, .cons d r, k + 1 => DatAll.drop r k
/-- a slice of a list -/
theorem Ev.slice (st : FrameOk h₀ L P) {x : PySem.Expr} {lower upper : Option PySem.Expr} {p pos : Pos} {ds ds' : List Dat} {lo hi : Option Int} (h₁ : Ev prog w A L env P x (.list ds)) (hlo : EvPart prog w A L env P lower lo) (hhi : EvPart prog w A L env P upper hi) (hsz : ds.length ≤ sizeLine)
    (hpick : ∀ G vs, DatAll G vs ds → DatAll G (slicePick (List.toArray vs) lo hi none).toList ds')
    (hs : ∀ l sl, subscripted (.Slice lower upper none p) false (.ref l) (.ref sl) = operate [.ref sl, .ref l] (getItem (.ref l) (.ref sl)) := by intro _ _; with_unfolding_all rfl) :
    Ev prog w A L env P (.Subscript x (.Slice lower upper none p) pos) (.list ds') :=
  Ev.of fun s G Q E hp hP hl q => Subscript_ (h₁.run s G _ _ hp hP hl fun v h' tk G' hp' z dv => by
    have hP' := st.stab _ _ _ _ hP z
    refine wpAny_Slice (hlo.run _ G' _ _ hp' hP' z.led fun vl h2 tk2 G2 hp2 z2 pl => ?_)
    have hP2 := st.stab _ _ _ _ hP' z2
    refine hhi.run _ G2 _ _ hp2 hP2 z2.led fun vu h3 tk3 G3 hp3 z3 pu => ?_
    have hP3 := st.stab _ _ _ _ hP2 z3
    refine wpAny_pure ?_
    obtain ⟨a, vs, n, rfl, hm, _, hl', r⟩ := isList_of (h := h3) z3.led ((dv.mono z2.sub).mono z3.sub)
    have hl4 : (h3.push { cls := .type "slice", data := .fields #[vl, vu, Value.none] }).IsList a (List.toArray vs) := hl'.push _
    refine tail_any (ops := [.ref h3.objs.size, .ref a]) (T := "list") (s := { s with heap := h3.push { cls := .type "slice", data := .fields #[vl, vu, Value.none] }, toks := tk3 }) hl4.typeIs slot_list_getitem.lookup
      (wpAny_getItem_list_slice (s := { s with heap := h3.push { cls := .type "slice", data := .fields #[vl, vu, Value.none] }, toks := tk3 }) hl4 (Heap.IsSliceOf.new ..) pl pu .none (by simp) ?_ (by rw [List.size_toArray, r.length]; exact hsz)) (hs _ _)
    have e1 := push_ext (s := { s with heap := h3, toks := tk3 }) st hP3 z3.led { cls := .type "slice", data := .fields #[vl, vu, Value.none] } (fun _ _ _ e => by cases e)
    have hP4 := st.stab _ _ _ _ hP3 e1
    have e2 := push_ext (s := { s with heap := h3.push { cls := .type "slice", data := .fields #[vl, vu, Value.none] }, toks := tk3 }) st hP4 e1.led (W.listOf (slicePick (List.toArray vs) lo hi Option.none) 0) (fun _ _ _ e => by cases e)
    refine q _ _ _ _ ((z.trans z2).trans ((z3.trans e1).trans e2)) ?_
    refine .list (n := 0) (vs := (slicePick (List.toArray vs) lo hi Option.none).toList) ?_ ((hpick _ _ r).mono fun p hp => .tail _ (.tail _ hp))
    show (_, W.listOf (slicePick (List.toArray vs) lo hi Option.none).toList.toArray 0) ∈ _
    rw [Array.toArray_toList]
    exact .head _)
theorem pick_from {ds : List Dat} (a : Nat) : ∀ G vs, DatAll G vs ds → DatAll G (slicePick (List.toArray vs) (some (a : Int)) none none).toList (ds.drop a) := fun G vs h => by
  rw [slicePick_from']; exact DatAll.drop h a
theorem pick_upto {ds : List Dat} (a : Nat) : ∀ G vs, DatAll G vs ds → DatAll G (slicePick (List.toArray vs) none (some (a : Int)) none).toList (ds.take a) := fun G vs h => by
  rw [slicePick_upto']; exact DatAll.take h a
theorem pick_last {ds : List Dat} (k : Nat) (hk : 1 ≤ k) : ∀ G vs, DatAll G vs ds → DatAll G (slicePick (List.toArray vs) (some (-(k : Int))) none none).toList (ds.drop (ds.length - k)) := fun G vs h => by
  rw [slicePick_last _ _ hk, List.size_toArray, h.length]; exact DatAll.drop h _
end
end Mine
end

section
open PySem PySem.W PyProof.Rows PySem.Calls
set_option Elab.async false
set_option maxRecDepth 100000
set_option linter.all false
namespace Mine
section
variable {prog : Program} {w : World} {A : Around} {L : Addr}
theorem add_iD {a b : Int} : BinD prog w A L .Add (.int a) (.int b) (.int (a + b)) := ⟨fun s G m v₁ v₂ Q E _ l _ _ d₁ d₂ k => (by
  (first | (apply dInt (v := v₁) d₁; intro _) | (apply dStr (v := v₁) d₁; intro _) | apply dBool (v := v₁) d₁ | apply dNone (v := v₁) d₁); (first | (apply dInt (v := v₂) d₂; intro _) | (apply dStr (v := v₂) d₂; intro _) | apply dBool (v := v₂) d₂ | apply dNone (v := v₂) d₂); exact PyProof.Rows.add_int (k _ _ _ _ (.rfl' l) (.int _ _)))⟩
theorem sub_iD {a b : Int} : BinD prog w A L .Sub (.int a) (.int b) (.int (a - b)) := ⟨fun s G m v₁ v₂ Q E _ l _ _ d₁ d₂ k => (by
  (first | (apply dInt (v := v₁) d₁; intro _) | (apply dStr (v := v₁) d₁; intro _) | apply dBool (v := v₁) d₁ | apply dNone (v := v₁) d₁); (first | (apply dInt (v := v₂) d₂; intro _) | (apply dStr (v := v₂) d₂; intro _) | apply dBool (v := v₂) d₂ | apply dNone (v := v₂) d₂); exact PyProof.Rows.sub_int' (k _ _ _ _ (.rfl' l) (.int _ _)))⟩
theorem mul_iD {a b : Int} (hm : IntMulOk a b) : BinD prog w A L .Mult (.int a) (.int b) (.int (a * b)) := ⟨fun s G m v₁ v₂ Q E _ l _ _ d₁ d₂ k => (by
  (first | (apply dInt (v := v₁) d₁; intro _) | (apply dStr (v := v₁) d₁; intro _) | apply dBool (v := v₁) d₁ | apply dNone (v := v₁) d₁); (first | (apply dInt (v := v₂) d₂; intro _) | (apply dStr (v := v₂) d₂; intro _) | apply dBool (v := v₂) d₂ | apply dNone (v := v₂) d₂); exact PyProof.Rows.mul_int (k _ _ _ _ (.rfl' l) (.int _ _)) hm)⟩
theorem fdiv_iD {a b : Int} (hb : b ≠ 0) (hs : b.natAbs < 1073741824) : BinD prog w A L .FloorDiv (.int a) (.int b) (.int (a.fdiv b)) := ⟨fun s G m v₁ v₂ Q E _ l _ _ d₁ d₂ k => (by
  (first | (apply dInt (v := v₁) d₁; intro _) | (apply dStr (v := v₁) d₁; intro _) | apply dBool (v := v₁) d₁ | apply dNone (v := v₁) d₁); (first | (apply dInt (v := v₂) d₂; intro _) | (apply dStr (v := v₂) d₂; intro _) | apply dBool (v := v₂) d₂ | apply dNone (v := v₂) d₂); exact PyProof.Rows.floordiv_int hb (k _ _ _ _ (.rfl' l) (.int _ _)) (Or.inl (PyProof.noPylong_small hs)))⟩
theorem mod_iD {a b : Int} (hb : b ≠ 0) : BinD prog w A L .Mod (.int a) (.int b) (.int (a.fmod b)) := ⟨fun s G m v₁ v₂ Q E _ l _ _ d₁ d₂ k => (by
  (first | (apply dInt (v := v₁) d₁; intro _) | (apply dStr (v := v₁) d₁; intro _) | apply dBool (v := v₁) d₁ | apply dNone (v := v₁) d₁); (first | (apply dInt (v := v₂) d₂; intro _) | (apply dStr (v := v₂) d₂; intro _) | apply dBool (v := v₂) d₂ | apply dNone (v := v₂) d₂); exact PyProof.Rows.mod_int' hb (k _ _ _ _ (.rfl' l) (.int _ _)))⟩
theorem pow_iD {a n : Int} (hn : 0 ≤ n) (hsz : (Builtin.Int.intBits a : Int) * n ≤ 2 ^ 27) : BinD prog w A L .Pow (.int a) (.int n) (.int (a ^ n.toNat)) := ⟨fun s G m v₁ v₂ Q E _ l _ _ d₁ d₂ k => (by
  (first | (apply dInt (v := v₁) d₁; intro _) | (apply dStr (v := v₁) d₁; intro _) | apply dBool (v := v₁) d₁ | apply dNone (v := v₁) d₁); (first | (apply dInt (v := v₂) d₂; intro _) | (apply dStr (v := v₂) d₂; intro _) | apply dBool (v := v₂) d₂ | apply dNone (v := v₂) d₂); exact PyProof.Rows.pow_int hn hsz (k _ _ _ _ (.rfl' l) (.int _ _)))⟩
theorem add_lD {xs ys : List Dat} (hsz : xs.length + ys.length ≤ sizeLine) : BinD prog w A L .Add (.list xs) (.list ys) (.list (xs ++ ys)) := ⟨fun s G m v₁ v₂ Q E _ l n off d₁ d₂ k => (by
  obtain ⟨a, vs, na, rfl, hma, _, hla, ra⟩ := isList_of l d₁
  obtain ⟨b, us, nb, rfl, hmb, _, hlb, rb⟩ := isList_of l d₂
  refine add_lists (useF n) useN hla hlb (fun h' F' N' => ?_) (by rw [ra.length, rb.length]; exact hsz)
  have x := backFN (tl := [(s.heap.objs.size, W.listOf (vs ++ us).toArray 0)]) l n off F' N' (fun p hp => by rw [List.mem_singleton] at hp; subst hp; exact Heap.get?_none_of_le (Nat.le_refl _))
  exact k _ _ _ _ x (.list (n := 0) (.head _) ((ra.append rb).mono fun p q => .tail _ q)))⟩
theorem DatAll.rep {G : Ldg} {vs : List Value} {ds : List Dat} (h : DatAll G vs ds) : ∀ k : Nat, DatAll G (List.replicate k vs).flatten (List.replicate k ds).flatten
  | 0 => .nil
  | k + 1 => by rw [List.replicate_succ, List.replicate_succ, List.flatten_cons, List.flatten_cons]; exact h.append (DatAll.rep h k)
theorem fold_rep (vs : List Value) : ∀ (k : Nat) (acc : List Value), (List.foldl (fun x1 x2 => x1 ++ x2) (List.toArray acc) (List.replicate k vs.toArray)) = (acc ++ (List.replicate k vs).flatten).toArray
  | 0, acc => by simp
  | k + 1, acc => by
    rw [List.replicate_succ, List.replicate_succ, List.foldl_cons, List.flatten_cons]
    have : List.toArray acc ++ List.toArray vs = (acc ++ vs).toArray := by simp
    rw [this, fold_rep vs k, List.append_assoc]
theorem mul_lD {xs : List Dat} {k : Int} (h0 : 0 ≤ k) (h1 : k < 2 ^ 63) (hsz : xs.length * k.toNat ≤ 2 ^ 24) : BinD prog w A L .Mult (.list xs) (.int k) (.list (List.replicate k.toNat xs).flatten) := ⟨fun s G m v₁ v₂ Q E _ l n off d₁ d₂ q => (by
  obtain ⟨a, vs, na, rfl, hma, hga, hla, ra⟩ := isList_of l d₁
  (first | (apply dInt (v := v₂) d₂; intro _) | (apply dStr (v := v₂) d₂; intro _) | apply dBool (v := v₂) d₂ | apply dNone (v := v₂) d₂)
  refine PyProof.Rows.mul_list (useF n) useN hga (by omega) h1 (by rw [List.size_toArray, ra.length]; exact hsz) fun h' F' N' => ?_
  have e : (List.foldl (fun x1 x2 => x1 ++ x2) #[] (List.replicate (if vs.toArray.isEmpty = true then 0 else k.toNat) vs.toArray)) = ((List.replicate k.toNat vs).flatten).toArray := by
    cases vs with
    | nil =>
      have : (List.replicate k.toNat ([] : List Value)).flatten = [] := by simp
      rw [this]; simp
    | cons v vs =>
      have : (List.toArray (v :: vs)).isEmpty = false := by simp
      rw [this]
      have := fold_rep (v :: vs) k.toNat []
      simpa using this
  rw [e] at N'
  have x := backFN (tl := [(s.heap.objs.size, W.listOf ((List.replicate k.toNat vs).flatten).toArray 0)]) l n off F' N' (fun p hp => by rw [List.mem_singleton] at hp; subst hp; exact Heap.get?_none_of_le (Nat.le_refl _))
  exact q _ _ _ _ x (.list (n := 0) (.head _) ((DatAll.rep ra _).mono fun p q => .tail _ q)))⟩
-- comparisons
theorem eq_iD {a b : Int} : CmpD prog w A L .Eq (.int a) (.int b) (a == b) := ⟨fun s G m v₁ v₂ Q E _ l _ _ d₁ d₂ k => (by
  (first | (apply dInt (v := v₁) d₁; intro _) | (apply dStr (v := v₁) d₁; intro _) | apply dBool (v := v₁) d₁ | apply dNone (v := v₁) d₁); (first | (apply dInt (v := v₂) d₂; intro _) | (apply dStr (v := v₂) d₂; intro _) | apply dBool (v := v₂) d₂ | apply dNone (v := v₂) d₂); exact PyProof.Rows.eq_int (k _ _ _ (.rfl' l)))⟩
theorem ne_iD {a b : Int} : CmpD prog w A L .NotEq (.int a) (.int b) (a != b) := ⟨fun s G m v₁ v₂ Q E _ l _ _ d₁ d₂ k => (by
  (first | (apply dInt (v := v₁) d₁; intro _) | (apply dStr (v := v₁) d₁; intro _) | apply dBool (v := v₁) d₁ | apply dNone (v := v₁) d₁); (first | (apply dInt (v := v₂) d₂; intro _) | (apply dStr (v := v₂) d₂; intro _) | apply dBool (v := v₂) d₂ | apply dNone (v := v₂) d₂); exact PyProof.Rows.ne_int (k _ _ _ (.rfl' l)))⟩
theorem lt_iD {a b : Int} : CmpD prog w A L .Lt (.int a) (.int b) (decide (a < b)) := ⟨fun s G m v₁ v₂ Q E _ l _ _ d₁ d₂ k => (by
  (first | (apply dInt (v := v₁) d₁; intro _) | (apply dStr (v := v₁) d₁; intro _) | apply dBool (v := v₁) d₁ | apply dNone (v := v₁) d₁); (first | (apply dInt (v := v₂) d₂; intro _) | (apply dStr (v := v₂) d₂; intro _) | apply dBool (v := v₂) d₂ | apply dNone (v := v₂) d₂); exact PyProof.Rows.lt_int (k _ _ _ (.rfl' l)))⟩
theorem gt_iD {a b : Int} : CmpD prog w A L .Gt (.int a) (.int b) (decide (b < a)) := ⟨fun s G m v₁ v₂ Q E _ l _ _ d₁ d₂ k => (by
  (first | (apply dInt (v := v₁) d₁; intro _) | (apply dStr (v := v₁) d₁; intro _) | apply dBool (v := v₁) d₁ | apply dNone (v := v₁) d₁); (first | (apply dInt (v := v₂) d₂; intro _) | (apply dStr (v := v₂) d₂; intro _) | apply dBool (v := v₂) d₂ | apply dNone (v := v₂) d₂); exact PyProof.Rows.gt_int (k _ _ _ (.rfl' l)))⟩
theorem eq_sD {a b : Str} : CmpD prog w A L .Eq (.str a) (.str b) (a == b) := ⟨fun s G m v₁ v₂ Q E _ l _ _ d₁ d₂ k => (by
  (first | (apply dInt (v := v₁) d₁; intro _) | (apply dStr (v := v₁) d₁; intro _) | apply dBool (v := v₁) d₁ | apply dNone (v := v₁) d₁); (first | (apply dInt (v := v₂) d₂; intro _) | (apply dStr (v := v₂) d₂; intro _) | apply dBool (v := v₂) d₂ | apply dNone (v := v₂) d₂); exact PyProof.Rows.eq_str (k _ _ _ (.rfl' l)))⟩
theorem ne_sD {a b : Str} : CmpD prog w A L .NotEq (.str a) (.str b) (a != b) := ⟨fun s G m v₁ v₂ Q E _ l _ _ d₁ d₂ k => (by
  (first | (apply dInt (v := v₁) d₁; intro _) | (apply dStr (v := v₁) d₁; intro _) | apply dBool (v := v₁) d₁ | apply dNone (v := v₁) d₁); (first | (apply dInt (v := v₂) d₂; intro _) | (apply dStr (v := v₂) d₂; intro _) | apply dBool (v := v₂) d₂ | apply dNone (v := v₂) d₂); exact PyProof.Rows.ne_str (k _ _ _ (.rfl' l)))⟩
theorem isNot_none_yes : CmpD prog w A L .IsNot .none .none false := ⟨fun s G m v₁ v₂ Q E _ l _ _ d₁ d₂ k => (by
  (first | (apply dInt (v := v₁) d₁; intro _) | (apply dStr (v := v₁) d₁; intro _) | apply dBool (v := v₁) d₁ | apply dNone (v := v₁) d₁); (first | (apply dInt (v := v₂) d₂; intro _) | (apply dStr (v := v₂) d₂; intro _) | apply dBool (v := v₂) d₂ | apply dNone (v := v₂) d₂); exact isNot_none (k _ _ _ (.rfl' l)))⟩
theorem isNot_none_str {x : Str} : CmpD prog w A L .IsNot (.str x) .none true := ⟨fun s G m v₁ v₂ Q E _ l _ _ d₁ d₂ k => (by
  (first | (apply dInt (v := v₁) d₁; intro _) | (apply dStr (v := v₁) d₁; intro _) | apply dBool (v := v₁) d₁ | apply dNone (v := v₁) d₁); (first | (apply dInt (v := v₂) d₂; intro _) | (apply dStr (v := v₂) d₂; intro _) | apply dBool (v := v₂) d₂ | apply dNone (v := v₂) d₂); exact isNot_none (k _ _ _ (.rfl' l)))⟩
theorem sub_objsBut {G : Ldg} {h : Heap} (l : Led G h) (off : ∀ p ∈ G, p.1 ≠ L) : ∀ p ∈ G, p ∈ objsBut L h := fun p hp => mem_objsBut.mpr ⟨l p hp, off p hp⟩
open Classical in
theorem eq_lD {xs ys : List Dat} (h1 : ∀ d ∈ xs, kqdOk 8 d = true) (h2 : ∀ d ∈ ys, kqdOk 8 d = true) (hu : A.units + 64 < cLine) : CmpD prog w A L .Eq (.list xs) (.list ys) (decide (xs = ys)) := ⟨fun s G m v₁ v₂ Q E _ l n off d₁ d₂ k => (by
  obtain ⟨a, vs, na, rfl, hma, _, hla, ra⟩ := isList_of l d₁
  obtain ⟨b, us, nb, rfl, hmb, _, hlb, rb⟩ := isList_of l d₂
  exact kqd_eq (useN (L := L)) (sub_objsBut l off _ hma) rfl rfl ra (sub_objsBut l off) (sub_objsBut l off _ hmb) rfl rfl rb (sub_objsBut l off) h1 h2 hu (k _ _ _ (.rfl' l)))⟩
open Classical in
theorem ne_lD {xs ys : List Dat} (h1 : ∀ d ∈ xs, kqdOk 8 d = true) (h2 : ∀ d ∈ ys, kqdOk 8 d = true) (hu : A.units + 64 < cLine) : CmpD prog w A L .NotEq (.list xs) (.list ys) (!decide (xs = ys)) := ⟨fun s G m v₁ v₂ Q E _ l n off d₁ d₂ k => (by
  obtain ⟨a, vs, na, rfl, hma, _, hla, ra⟩ := isList_of l d₁
  obtain ⟨b, us, nb, rfl, hmb, _, hlb, rb⟩ := isList_of l d₂
  exact kqd_ne (useN (L := L)) (sub_objsBut l off _ hma) rfl rfl ra (sub_objsBut l off) (sub_objsBut l off _ hmb) rfl rfl rb (sub_objsBut l off) h1 h2 hu (k _ _ _ (.rfl' l)))⟩
open Classical in
theorem notIn_D {x : Dat} {ys : List Dat} (h1 : kqdOk 8 x = true) (h2 : ∀ d ∈ ys, kqdOk 8 d = true) (hu : A.units + 64 < cLine) : CmpD prog w A L .NotIn x (.list ys) (!decide (x ∈ ys)) := ⟨fun s G m v₁ v₂ Q E _ l n off d₁ d₂ k => (by
  obtain ⟨b, us, nb, rfl, hmb, _, hlb, rb⟩ := isList_of l d₂
  exact kqd_notIn (useN (L := L)) (sub_objsBut l off _ hmb) rfl rfl rb (sub_objsBut l off) d₁ (sub_objsBut l off) h2 h1 hu (k _ _ _ (.rfl' l)))⟩
end
end Mine
end

section
open PySem PySem.W PyProof.Rows PySem.Calls
set_option Elab.async false
set_option maxRecDepth 100000
set_option linter.all false
namespace Mine
section
variable {prog : Program} {w : World} {A : Around} {R : Result → Shared → Prop} {s : Shared}
abbrev testsOf (ifs : List PySem.Expr) (env : Env) : Sem Bool := forIn ifs true fun c r => if r = true then do let ok ← isTrue c env (eval c env); pure (ForInStep.yield ok) else pure (ForInStep.yield r)
theorem comp_gen {elt target : PySem.Expr} {gens : List Comprehension} {ifs : List PySem.Expr} {scope : Scope} {pos ip : Pos} {depth : Nat} {it acc : Value} {env : Env} {emit : Sem Unit}
    (heq : compTurn (.ListComp elt gens scope pos) depth it acc env = (do
      standAt ip
      match ← pyNext it with
      | none => pure (.done .next)
      | some v =>
        letOwnedTupleGo target it v
        assign target env v
        let mut ok := true
        for c in ifs do
          if ok then ok ← isTrue c env (eval c env)
        if ok then
          emit
        again (.compLoop (.ListComp elt gens scope pos) depth it acc env)))
    (I : Nat → Shared → Prop)
    (turn : ∀ n s, I n s → ∀ E : Value → Shared → Prop, wpAny (model prog w) A (pyNext it) (fun r s₁ => match r with
      | none => R (.ok .next) s₁
      | some v => wpAny (model prog w) A (letOwnedTupleGo target it v) (fun _ s₁' => wpAny (model prog w) A (assign target env v) (fun _ s₂ =>
          wpAny (model prog w) A (testsOf ifs env) (fun ok s₃ =>
            if ok = true then wpAny (model prog w) A emit (fun _ s₅ => ∃ m, m < n ∧ I m s₅) E s₃ else ∃ m, m < n ∧ I m s₃) E s₂) E s₁') E s₁) E s)
    (n : Nat) (h : I n s) : codeAny (model prog w) A (.compLoop (.ListComp elt gens scope pos) depth it acc env) R s := by
  refine codeAny_loop rfl I (fun n s hI => ?_) n h
  show wpAny _ A ((compTurn (.ListComp elt gens scope pos) depth it acc env).onRaise (fun x => do noteFrame x env; theTreesLotGoes x)) _ _ s
  refine wpAny_noted ?_
  rw [heq]
  refine wpAny_bind (wpAny_standAt (wpAny_bind (wpAny_mono (turn n s hI _) (fun r s₁ h₁ => ?_) fun _ _ h' => h')))
  cases r with
  | none => exact wpAny_pure h₁
  | some v =>
    refine wpAny_bind (wpAny_mono h₁ (fun _ s₁' h₁' => ?_) fun _ _ h' => h')
    refine wpAny_bind (wpAny_mono h₁' (fun _ s₂ h₂ => wpAny_bind (wpAny_mono h₂ (fun ok s₃ h₃ => ?_) fun _ _ h' => h')) fun _ _ h' => h')
    cases ok with
    | false => exact wpAny_pure ⟨rfl, h₃⟩
    | true => exact wpAny_bind (wpAny_mono h₃ (fun _ s₅ h₅ => wpAny_pure ⟨rfl, h₅⟩) fun _ _ h' => h')
end
/-- a target's names bound in a frame C -/
def Binds (G : Ldg) (m : Str → Option Value) (lv : List (Str × Dat)) : Prop := ∀ x d, (x, d) ∈ lv → ∃ v, m x = some v ∧ DatIn G v d
structure AsgD (prog : Program) (w : World) (A : Around) (env : Env) (C : Addr) (target : PySem.Expr) (d : Dat) (lv : List (Str × Dat)) : Prop where
  run : ∀ (s : Shared) (G : Ldg) (m : Str → Option Value) (v : Value) (Q : Unit → Shared → Prop) (E : Value → Shared → Prop), Led G s.heap → s.heap.Ns C m → (∀ p ∈ G, p.1 ≠ C) → DatIn G v d →
    (∀ h' tk m', (∀ b o, b ≠ C → s.heap.get? b = some o → h'.get? b = some o) → h'.Ns C m' → Binds G m' lv → (∀ x, x ∉ lv.map (·.1) → m' x = m x) → Q () { s with heap := h', toks := tk }) → wpAny (model prog w) A (assign target env v) Q E s
section
variable {prog : Program} {w : World} {A : Around} {env : Env} {C : Addr}
theorem asg_name {x : Str} {pos : Pos} {d : Dat} (hC : env.locals = C) (hx : env.kindOf x = some .local) (hp : (env.scope.kind == .class || (env.scope.kind == .module && env.locals != env.globals)) = false) : AsgD prog w A env C (.Name x pos) d [(x, d)] := .mk fun s G m v Q E l n off dv k => by
  subst hC
  refine wpAny_assign_Name (wpAny_storeName_local hx n (fun h' hn hs => k h' _ _ (fun b o hb e => hs.extBut b o hb e) hn ?_ ?_) hp)
  · intro y d' e
    rw [List.mem_singleton] at e
    cases e
    exact ⟨v, by simp, dv⟩
  · intro y e
    have hy : y ≠ x := by simpa using e
    simp [hy]
theorem asg_seq (hp : (env.scope.kind == .class || (env.scope.kind == .module && env.locals != env.globals)) = false) : ∀ (xs : List (Str × Pos)) (vs : List Value) (ds : List Dat) (s : Shared) (G : Ldg) (m : Str → Option Value) (Q : Unit → Shared → Prop) (E : Value → Shared → Prop),
    xs.length = ds.length → (∀ p ∈ xs, env.kindOf p.1 = some .local) → (xs.map (·.1)).Nodup → s.heap.Ns env.locals m → DatAll G vs ds →
    (∀ h' tk m', (∀ b o, b ≠ env.locals → s.heap.get? b = some o → h'.get? b = some o) → h'.Ns env.locals m' → Binds G m' ((xs.map (·.1)).zip ds) → (∀ x, x ∉ xs.map (·.1) → m' x = m x) → Q () { s with heap := h', toks := tk }) →
    wpAny (model prog w) A (assignInOrder ((assignEach (xs.map fun p => .Name p.1 p.2) env).map (·.2)) vs) Q E s
  | [], vs, ds, s, G, m, Q, E, hl, _, _, n, dvs, k => by
    refine assignInOrder_nil (k s.heap s.toks m (fun _ _ _ e => e) n (fun x d e => by simp at e) fun _ _ => rfl)
  | (x, p) :: xs, vs, ds, s, G, m, Q, E, hl, hk, nd, n, dvs, k => by
    cases dvs with
    | nil => simp at hl
    | @cons v vs d ds dv dvs =>
      have hnd : x ∉ xs.map (·.1) ∧ (xs.map (·.1)).Nodup := by simpa using nd
      refine assignInOrder_cons (wpAny_assign_Name (wpAny_storeName_local (hk _ (.head _)) n (fun h' hn hs => ?_) hp))
      refine asg_seq hp xs vs ds _ G _ Q E (by simpa using hl) (fun q hq => hk q (.tail _ hq)) hnd.2 hn dvs fun h'' tk m' kp hn' bd rest => ?_
      refine k h'' tk m' (fun b o hb e => kp b o hb (hs.extBut b o hb e)) hn' (fun y d' e => ?_) fun y hy => ?_
      · rcases List.mem_cons.mp e with q | q
        · cases q
          exact ⟨v, by rw [rest _ hnd.1]; simp, dv⟩
        · exact bd y d' q
      · have hy' : y ≠ x ∧ y ∉ xs.map (·.1) := by simpa using hy
        rw [rest _ hy'.2]
        simp [hy'.1]
theorem map_zip_fst {xs : List Str} {ds : List Dat} (hl : xs.length = ds.length) : (xs.zip ds).map (·.1) = xs := by
  induction xs generalizing ds with
  | nil => simp
  | cons x xs ih =>
    cases ds with
    | nil => simp at hl
    | cons d ds => simp [ih (ds := ds) (by simpa using hl)]
theorem asg_tuple {xs : List (Str × Pos)} {k : Nat} {pos : Pos} {ds : List Dat} (hh : A.handled = none) (hC : env.locals = C) (hp : (env.scope.kind == .class || (env.scope.kind == .module && env.locals != env.globals)) = false)
    (hl : xs.length = ds.length) (hk : ∀ p ∈ xs, env.kindOf p.1 = some .local) (nd : (xs.map (·.1)).Nodup) (hstar : (assignEach (xs.map fun p => PySem.Expr.Name p.1 p.2) env).findIdx? (·.1) = none := by rfl) (hlen : (assignEach (xs.map fun p => PySem.Expr.Name p.1 p.2) env).length = xs.length := by rfl) :
    AsgD prog w A env C (.Tuple (xs.map fun p => .Name p.1 p.2) k pos) (.list ds) ((xs.map (·.1)).zip ds) := .mk fun s G m v Q E l n off dv q => by
  obtain ⟨a, vs, na, rfl, hm, hg, hla, r⟩ := isList_of l dv
  refine kun_list (useF n) useN hla hh (by rw [hlen, hl, List.size_toArray, r.length]) hstar fun h' F' N' => ?_
  have kp : ∀ b o, b ≠ C → s.heap.get? b = some o → h'.get? b = some o := fun b o hb e => (N' (b, o) (mem_objsBut.mpr ⟨e, hb⟩)).1
  subst hC
  refine asg_seq hp xs vs ds { s with heap := h' } G m Q E hl hk nd F'.ns r fun h'' tk m' kp' hn' bd rest => q h'' tk m' (fun b o hb e => kp' b o hb (kp b o hb e)) hn' bd fun x hx => rest x (by rw [map_zip_fst (by simpa using hl)] at hx; exact hx)
end
/-- the frame of a comprehension above P -/
def CP (P : Ldg → Heap → Prop) (L C : Addr) (lv : List (Str × Dat)) (G : Ldg) (h : Heap) : Prop := P G h ∧ C ≠ L ∧ (∀ p ∈ G, p.1 ≠ C) ∧ ∃ m, h.Ns C m ∧ Binds G m lv
theorem CP.frame {h₀ : Heap} {L C : Addr} {P : Ldg → Heap → Prop} {lv : List (Str × Dat)} (st : FrameOk h₀ L P) : FrameOk h₀ L (CP P L C lv) where
  stab := fun G h G' h' ⟨hP, hC, off, m, n, b⟩ x => by
    refine ⟨st.stab _ _ _ _ hP x, hC, fun p hp => ?_, m, n.at' fun o e => x.kp _ _ hC e, fun y d e => ?_⟩
    · rcases x.fresh p hp with q | ⟨q, _⟩
      · exact off p q
      · intro e
        obtain ⟨o, _, _, ho, _⟩ := n
        (first | exact noAt e q ho | exact noIs e q ho | exact (noAt e q ho).elim | exact (noIs e q ho).elim | (rw [e, ho] at q; cases q))
    · obtain ⟨v, e1, e2⟩ := b y d e
      exact ⟨v, e1, e2.mono x.sub⟩
  fr := fun G h hP => st.fr _ _ hP.1
  off := fun G h hP => st.off _ _ hP.1
structure EvTs (prog : Program) (w : World) (A : Around) (L : Addr) (env : Env) (P : Ldg → Heap → Prop) (ifs : List PySem.Expr) (b : Bool) : Prop where
  run : ∀ (s : Shared) (G : Ldg) (Q : Bool → Shared → Prop) (E : Value → Shared → Prop), 0 < s.toks → P G s.heap → Led G s.heap →
    (∀ h' tk G', 0 < tk → Ext L G s.heap G' h' → Q b { s with heap := h', toks := tk }) → wpAny (model prog w) A (testsOf ifs env) Q E s
section
variable {prog : Program} {w : World} {A : Around} {h₀ : Heap} {L : Addr} {env : Env} {P : Ldg → Heap → Prop}
theorem EvTs.nil : EvTs prog w A L env P [] true := .mk fun s G Q E hp _ hl k => wpAny_tests_nil (k s.heap s.toks G hp (.rfl' hl))
theorem EvTs.one {c : PySem.Expr} {b : Bool} (h : EvT prog w A L env P c b) : EvTs prog w A L env P [c] b := .mk fun s G Q E hp hP hl k => wpAny_tests_one (h.run s G Q E hp hP hl k)
end
end Mine
end

section
open PySem PySem.W PyProof.Rows PySem.Calls
set_option Elab.async false
set_option maxRecDepth 100000
set_option linter.all false
set_option maxHeartbeats 1000000
namespace Mine
theorem all3 {P : Addr → Prop} {x y z : Addr} (a : P x) (b : P y) (c : P z) : ∀ q ∈ x :: ([y] ++ [z]), P q := List.forall_mem_cons.mpr ⟨a, List.forall_mem_cons.mpr ⟨b, List.forall_mem_cons.mpr ⟨c, fun _ e => nomatch e⟩⟩⟩
theorem all1 {P : Addr → Prop} {x : Addr} (a : P x) : ∀ q ∈ [x], P q := List.forall_mem_cons.mpr ⟨a, fun _ e => nomatch e⟩
theorem not1 {x a : Addr} (h : x ≠ a) : x ∉ [a] := fun q => h (List.mem_singleton.mp q)
theorem not2 {x a b : Addr} (h : x ≠ a) (g : x ≠ b) : x ∉ [a, b] := fun q => by
  rcases List.mem_cons.mp q with q | q
  · exact h q
  · exact not1 g q
theorem not3 {x a b c : Addr} (h : x ≠ a) (g : x ≠ b) (k : x ≠ c) : x ∉ a :: ([b] ++ [c]) := fun q => by
  rcases List.mem_cons.mp q with q | q
  · exact h q
  · exact not2 g k q
/-- as Ext, but what lies at W may change -/
structure ExtW (L : Addr) (W : List Addr) (G : Ldg) (h : Heap) (G' : Ldg) (h' : Heap) : Prop where
  kp : ∀ b o, b ≠ L → b ∉ W → h.get? b = some o → h'.get? b = some o
  ns : ∀ m, h.Ns L m → h'.Ns L m
  sub : ∀ p ∈ G, p ∈ G'
  fresh : ∀ p ∈ G', p ∈ G ∨ (h.get? p.1 = none ∧ p.1 ≠ L ∧ p.1 ∉ W)
  led : Led G' h'
section
variable {L : Addr} {W V : List Addr} {G G' G'' : Ldg} {h h' h'' : Heap}
theorem ExtW.rfl' (l : Led G h) : ExtW L W G h G h := ⟨fun _ _ _ _ e => e, fun _ e => e, fun _ q => q, fun _ q => .inl q, l⟩
theorem ExtW.trans (x : ExtW L W G h G' h') (y : ExtW L W G' h' G'' h'') : ExtW L W G h G'' h'' :=
  ⟨fun b o hb hw e => y.kp b o hb hw (x.kp b o hb hw e), fun m e => y.ns m (x.ns m e), fun p hp => y.sub p (x.sub p hp), fun p hp => (by
    rcases y.fresh p hp with q | ⟨q, r, t⟩
    · exact x.fresh p q
    · refine .inr ⟨?_, r, t⟩
      cases e : h.get? p.1 with
      | none => rfl
      | some o => (rw [x.kp _ _ r t e] at q; cases q)), y.led⟩
theorem Ext.toW (x : Ext L G h G' h') (al : ∀ b ∈ W, ∃ o, h.get? b = some o) : ExtW L W G h G' h' :=
  ⟨fun b o hb _ e => x.kp b o hb e, x.ns, x.sub, fun p hp => (x.fresh p hp).imp id fun q => ⟨q.1, q.2, fun hw => (by obtain ⟨o, e⟩ := al _ hw; (first | exact noBoth q.1 e | exact noBoth e q.1 | exact (noBoth q.1 e).elim | exact (noBoth e q.1).elim | (rw [q.1] at e; cases e)))⟩, x.led⟩
theorem ExtW.more (x : ExtW L W G h G' h') (hs : ∀ b ∈ W, b ∈ V) (al : ∀ b ∈ V, ∃ o, h.get? b = some o) : ExtW L V G h G' h' :=
  ⟨fun b o hb hw e => x.kp b o hb (fun q => hw (hs b q)) e, x.ns, x.sub, fun p hp => (x.fresh p hp).imp id fun q => ⟨q.1, q.2.1, fun hw => (by obtain ⟨o, e⟩ := al _ hw; (first | exact noBoth q.1 e | exact noBoth e q.1 | exact (noBoth q.1 e).elim | exact (noBoth e q.1).elim | (rw [q.1] at e; cases e)))⟩, x.led⟩
/-- a change at W alone -/
theorem ExtW.chg (l : Led G h) (hL : L ∉ W) (off : ∀ p ∈ G, p.1 ∉ W) (k : ∀ b o, b ∉ W → h.get? b = some o → h'.get? b = some o) : ExtW L W G h G h' :=
  ⟨fun b o _ hw e => k b o hw e, fun m n => n.at' fun o e => k _ o hL e, fun _ q => q, fun _ q => .inl q, fun p hp => k _ _ (off p hp) (l p hp)⟩
/-- what lies at W is new since the base -/
theorem ExtW.base {G₀ : Ldg} {g : Heap} (x : Ext L G₀ g G h) (y : ExtW L W G h G' h') (new : ∀ b ∈ W, g.get? b = none) : Ext L G₀ g G' h' :=
  ⟨fun b o hb e => y.kp b o hb (fun q => by rw [new b q] at e; cases e) (x.kp b o hb e), fun m n => y.ns m (x.ns m n), fun p hp => y.sub p (x.sub p hp), fun p hp => (by
    rcases y.fresh p hp with q | ⟨q, r, _⟩
    · exact x.fresh p q
    · exact .inr ⟨x.gone r q, r⟩), y.led⟩
end
/-- what one turn lays into the list D -/
structure EmW (prog : Program) (w : World) (A : Around) (L D : Addr) (Wl : List Addr) (Own : Heap → Prop) (J : Ldg → Heap → Prop) (emit : Sem Unit) (out : List Dat) : Prop where
  run : ∀ (s : Shared) (G : Ldg) (ys : List Value) (n : Nat) (Q : Unit → Shared → Prop) (E : Value → Shared → Prop), 0 < s.toks → J G s.heap → Led G s.heap → s.heap.get? D = some (W.listOf (List.toArray ys) n) → (∀ p ∈ G, p.1 ≠ D ∧ p.1 ∉ Wl) → Own s.heap → ys.length + out.length ≤ sizeLine →
    (∀ h' tk G' ys' n', 0 < tk → ExtW L (D :: Wl) G s.heap G' h' → h'.get? D = some (W.listOf (List.toArray (ys ++ ys')) n') → DatAll G' ys' out → (∀ p ∈ G', p.1 ≠ D ∧ p.1 ∉ Wl) → Own h' → Q () { s with heap := h', toks := tk }) → wpAny (model prog w) A emit Q E s
section
variable {prog : Program} {w : World} {A : Around} {h₀ : Heap} {L D : Addr} {Wl : List Addr} {env cenv : Env} {P : Ldg → Heap → Prop}
theorem emW_one {elt : PySem.Expr} {d : Dat} {J : Ldg → Heap → Prop} {Own : Heap → Prop} (own : ∀ h h', Own h → (∀ b ∈ Wl, ∀ o, h.get? b = some o → h'.get? b = some o) → Own h') (alive : ∀ h, Own h → ∀ b ∈ Wl, ∃ o, h.get? b = some o) (hDL : D ≠ L) (hDW : D ∉ Wl) (hLW : L ∉ Wl)
    (h : Ev prog w A L cenv J elt d) : EmW prog w A L D Wl Own J (do let _ ← call (.builtin "list.append") [.ref D, ← eval elt cenv]) [d] :=
  .mk fun s G ys n Q E hp hJ hl hD off hO hsz k => by
    show wpAny (model prog w) A (eval elt cenv >>= fun x => call (.builtin "list.append") [.ref D, x] >>= fun _ => pure ()) Q E s
    refine wpAny_bind (h.run s G _ _ hp hJ hl fun v h' tk G' hp' x dv => wpAny_bind ?_)
    have alW : ∀ b ∈ D :: Wl, ∃ o, s.heap.get? b = some o := fun b hb => by
      rcases List.mem_cons.mp hb with q | q
      · exact ⟨_, q ▸ hD⟩
      · exact alive _ hO b q
    have off' : ∀ p ∈ G', p.1 ≠ D ∧ p.1 ∉ Wl := fun p hp => by
      rcases (x.toW alW).fresh p hp with q | ⟨_, _, q⟩
      · exact off p q
      · exact ⟨fun e => q (e ▸ .head _), fun e => q (.tail _ e)⟩
    refine append_at (s := { s with heap := h', toks := tk }) (x.kp _ _ hDL hD) (fun h'' hs hD'' => wpAny_pure ?_) (by rw [List.size_toArray]; simp at hsz; omega)
    refine k h'' tk G' [v] (n + 1) hp' ((x.toW alW).trans (ExtW.chg x.led (fun q => ?_) (fun p hp q => ?_) fun b o hb e => hs.extBut b o (fun q => hb (q ▸ .head _)) e)) ?_ (DatAll.one dv) off' (own _ _ hO fun b hb o e => hs.extBut b o (fun q => hDW (q ▸ hb)) (x.kp b o (fun q => hLW (q ▸ hb)) e))
    · rcases List.mem_cons.mp q with q | q
      · exact hDL q.symm
      · exact hLW q
    · rcases List.mem_cons.mp q with q | q
      · exact (off' p hp).1 q
      · exact (off' p hp).2 q
    · rw [hD'']
      show some _ = some (W.listOf _ _)
      rw [List.push_toArray]
theorem tl_less {i n : Nat} (h : i < n) : n + 1 - (i + 1) < n + 1 - i := Nat.sub_succ_lt_self (n + 1) i (Nat.lt_succ_of_lt h)
inductive TLI (s₁ : Shared) (L D : Addr) (Wx : List Addr) (G₁ : Ldg) (h₁ : Heap) (ys₀ : List Value) (n : Nat) (St : Nat → Heap → Prop) (Own : Heap → Prop) (c : Nat → Bool) (f : Nat → List Dat) : Nat → Shared → Prop
  | mk {h' : Heap} {tk i : Nat} {ys : List Value} {n' : Nat} {G' : Ldg} (htk : 0 < tk) (hi : i ≤ n) (hst : St i h') (x : ExtW L Wx G₁ h₁ G' h') (hO : Own h') (hD : h'.get? D = some (W.listOf (List.toArray (ys₀ ++ ys)) n')) (off : ∀ p ∈ G', p.1 ∉ Wx) (dys : DatAll G' ys (((List.range i).filter c).flatMap f)) :
      TLI s₁ L D Wx G₁ h₁ ys₀ n St Own c f (n + 1 - i) { s₁ with heap := h', toks := tk }
/-- the loop of a comprehension over any source -/
theorem turn_loop {elt target : PySem.Expr} {gens : List Comprehension} {ifs : List PySem.Expr} {scope : Scope} {pos ip : Pos} {depth : Nat} {I : Addr} {fp wr : List Addr} {n : Nat} {Pv Md : Nat → Value → Heap → Prop} {St : Nat → Heap → Prop} {emit : Sem Unit} {RR : Result → Shared → Prop}
    {s₁ : Shared} {h₁ g : Heap} {tk₁ n₁ : Nat} {G₀ G₁ : Ldg} {ys₀ : List Value} (J : Nat → Ldg → Heap → Prop) (c : Nat → Bool) (f : Nat → List Dat) (Own : Heap → Prop)
    (KT : KTurns prog w A target I fp wr n Pv Md St)
    (heq : compTurn (.ListComp elt gens scope pos) depth (.ref I) (.ref D) cenv = (do
      standAt ip
      match ← pyNext (.ref I) with
      | none => pure (.done .next)
      | some v =>
        letOwnedTupleGo target (.ref I) v
        assign target cenv v
        let mut ok := true
        for c in ifs do
          if ok then ok ← isTrue c cenv (eval c cenv)
        if ok then
          emit
        again (.compLoop (.ListComp elt gens scope pos) depth (.ref I) (.ref D) cenv)))
    (own : ∀ h h', Own h → (∀ b ∈ Wl, ∀ o, h.get? b = some o → h'.get? b = some o) → Own h') (alive : ∀ h, Own h → ∀ b ∈ Wl, ∃ o, h.get? b = some o) (aliveI : ∀ i h, St i h → ∀ b ∈ wr, ∃ o, h.get? b = some o)
    (hfL : L ∉ fp) (hDL : D ≠ L) (hWL : L ∉ Wl) (hWfp : ∀ b ∈ Wl, b ∉ fp) (hDfp : D ∉ fp) (hDW : D ∉ Wl)
    (x₁ : Ext L G₀ g G₁ h₁) (new : ∀ b ∈ D :: (Wl ++ wr), g.get? b = none)
    (hst : St 0 h₁) (hO : Own h₁) (hD : h₁.get? D = some (W.listOf (List.toArray ys₀) n₁)) (off₁ : ∀ p ∈ G₁, p.1 ∉ D :: (Wl ++ wr)) (htk₁ : 0 < tk₁) (hsz : ys₀.length + (((List.range n).filter c).flatMap f).length ≤ sizeLine)
    (stJ : ∀ i, i < n → ∀ G h G' h', J i G h → Ext L G h G' h' → J i G' h')
    (hasg : ∀ i, i < n → ∀ (s : Shared) (G : Ldg) (v : Value) (Q : Unit → Shared → Prop) (E : Value → Shared → Prop), Pv i v s.heap → Led G s.heap → Ext L G₀ g G s.heap → (∀ p ∈ G, p.1 ∉ Wl) → Own s.heap →
      (∀ h' tk, (∀ b o, b ∉ Wl → s.heap.get? b = some o → h'.get? b = some o) → Own h' → (Ext L G₀ g G h' → J i G h') → Q () { s with heap := h', toks := tk }) → wpAny (model prog w) A (assign target cenv v) Q E s)
    (htest : ∀ i, i < n → EvTs prog w A L cenv (J i) ifs (c i))
    (hem : ∀ i, i < n → c i = true → EmW prog w A L D Wl Own (J i) emit (f i))
    (hR : ∀ h' tk G' ys n', 0 < tk → ExtW L (D :: (Wl ++ wr)) G₁ h₁ G' h' → Own h' → h'.get? D = some (W.listOf (List.toArray (ys₀ ++ ys)) n') → DatAll G' ys (((List.range n).filter c).flatMap f) → (∀ p ∈ G', p.1 ∉ D :: (Wl ++ wr)) → RR (.ok .next) { s₁ with heap := h', toks := tk }) :
    codeAny (model prog w) A (.compLoop (.ListComp elt gens scope pos) depth (.ref I) (.ref D) cenv) RR { s₁ with heap := h₁, toks := tk₁ } := by
  have hLWw : L ∉ D :: (Wl ++ wr) := fun q => by
    rcases List.mem_cons.mp q with q | q
    · exact hDL q.symm
    · rcases List.mem_append.mp q with q | q
      · exact hWL q
      · exact hfL (KT.sub _ q)
  refine comp_gen (emit := emit) heq
    (TLI s₁ L D (D :: (Wl ++ wr)) G₁ h₁ ys₀ n St Own c f) ?_ (n + 1)
    (.mk (i := 0) (ys := []) (n' := n₁) htk₁ (Nat.zero_le _) hst (.rfl' x₁.led) hO (by rw [List.append_nil]; exact hD) off₁ .nil)
  rintro _ _ ⟨htk, hi, hst', x, hO', hD', off, dys⟩ E'
  rename_i h' tk i ys n' G'
  have inW : ∀ b, b ∈ Wl → b ∈ D :: (Wl ++ wr) := fun b q => .tail _ (List.mem_append_left _ q)
  have inI : ∀ b, b ∈ wr → b ∈ D :: (Wl ++ wr) := fun b q => .tail _ (List.mem_append_right _ q)
  have hDwr : D ∉ wr := fun q => hDfp (KT.sub _ q)
  have hWwr : ∀ b ∈ Wl, b ∉ wr := fun b hb q => hWfp b hb (KT.sub _ q)
  by_cases hlt : i < n
  · refine wpToks (s := { s₁ with heap := h', toks := tk }) htk (KT.item i _ _ _ hlt hst' fun v h₂ tk₂ hMd hk₂ htk₂ => ?_)
    refine KT.go i v _ _ _ hMd fun h₃ hPv hst₃ hk₃ => ?_
    dsimp only at hk₂ hk₃ htk₂ hPv hst₃ ⊢
    have hk₃' : ∀ b o, b ∉ wr → h'.get? b = some o → h₃.get? b = some o := fun b o hb e => hk₃ b o hb (hk₂ b o hb e)
    have y₃ : ExtW L (D :: (Wl ++ wr)) G' h' G' h₃ := ExtW.chg x.led hLWw off fun b o hb e => hk₃' b o (fun q => hb (inI b q)) e
    have x₃ := x.trans y₃
    have hO₃ : Own h₃ := own _ _ hO' fun b hb o e => hk₃' b o (hWwr b hb) e
    have hD₃ := hk₃' _ _ hDwr hD'
    refine wpToks (s := { s₁ with heap := h₃, toks := tk₂ }) htk₂ (hasg i hlt { s₁ with heap := h₃, toks := tk₂ } G' v _ _ hPv x₃.led (ExtW.base x₁ x₃ new) (fun p hp q => off p hp (inW _ q)) hO₃ fun h₄ tk₄ hk₄ hO₄ hJ₄ htk₄ => ?_)
    dsimp only at hk₄ htk₄ ⊢
    have y₄ : ExtW L (D :: (Wl ++ wr)) G' h₃ G' h₄ := ExtW.chg x₃.led hLWw off fun b o hb e => hk₄ b o (fun q => hb (inW b q)) e
    have x₄ := x₃.trans y₄
    have J₄ := hJ₄ (ExtW.base x₁ x₄ new)
    have hD₄ := hk₄ _ _ hDW hD₃
    have hst₄ : St (i + 1) h₄ := KT.frame _ _ _ hst₃ fun b hb o e => hk₄ b o (fun q => hWfp b q hb) e
    have alW : ∀ h, Own h → (∃ o, h.get? D = some o) → St (i + 1) h → ∀ b ∈ D :: (Wl ++ wr), ∃ o, h.get? b = some o := fun h a1 a2 a3 b hb => by
      rcases List.mem_cons.mp hb with q | q
      · exact q ▸ a2
      · rcases List.mem_append.mp q with q | q
        · exact alive h a1 b q
        · exact aliveI _ h a3 b q
    refine (htest i hlt).run _ G' _ _ htk₄ J₄ x₄.led fun h₅ tk₅ G₅ htk₅ x₅ => ?_
    dsimp only at x₅ ⊢
    have y₅ := x₅.toW (alW _ hO₄ ⟨_, hD₄⟩ hst₄)
    have J₅ := stJ i hlt _ _ _ _ J₄ x₅
    have off₅ : ∀ p ∈ G₅, p.1 ∉ D :: (Wl ++ wr) := fun p hp => by
      rcases y₅.fresh p hp with q | ⟨_, _, q⟩
      · exact off p q
      · exact q
    have hO₅ : Own h₅ := own _ _ hO₄ fun b hb o e => x₅.kp b o (fun q => hWL (q ▸ hb)) e
    have hD₅ := x₅.kp _ _ hDL hD₄
    have hst₅ : St (i + 1) h₅ := KT.frame _ _ _ hst₄ fun b hb o e => x₅.kp b o (fun q => hfL (q ▸ hb)) e
    have hrange : List.range (i + 1) = List.range i ++ [i] := List.range_succ
    cases hc : c i with
    | false =>
      rw [if_neg (by simp)]
      refine ⟨n + 1 - (i + 1), tl_less hlt, .mk (i := i + 1) (ys := ys) (n' := n') htk₅ hlt hst₅ (x₄.trans y₅) hO₅ hD₅ off₅ ?_⟩
      rw [hrange, List.filter_append]
      have : List.filter c [i] = [] := by simp [hc]
      rw [this, List.append_nil]
      exact dys.mono x₅.sub
    | true =>
      rw [if_pos rfl]
      have hflt : ((List.range (i + 1)).filter c).flatMap f = ((List.range i).filter c).flatMap f ++ f i := by
        rw [hrange, List.filter_append]
        have : List.filter c [i] = [i] := by simp [hc]
        rw [this, List.flatMap_append, List.flatMap_cons, List.flatMap_nil, List.append_nil]
      have hlen : (ys₀ ++ ys).length + (f i).length ≤ sizeLine := by
        have e1 : ys.length = (((List.range i).filter c).flatMap f).length := dys.length
        have e3 : List.range n = List.range (i + 1) ++ (List.range n).drop (i + 1) := by
          conv => lhs; rw [← List.take_append_drop (i + 1) (List.range n)]
          rw [List.take_range, Nat.min_eq_left hlt]
        have e2 : (((List.range (i + 1)).filter c).flatMap f).length ≤ (((List.range n).filter c).flatMap f).length := by
          rw [e3, List.filter_append, List.flatMap_append, List.length_append]
          exact Nat.le_add_right _ _
        rw [hflt, List.length_append, ← e1] at e2
        rw [List.length_append]
        omega
      refine (hem i hlt hc).run _ G₅ (ys₀ ++ ys) n' _ _ htk₅ J₅ x₅.led hD₅ (fun p hp => ⟨fun q => off₅ p hp (q ▸ .head _), fun q => off₅ p hp (inW _ q)⟩) hO₅ hlen fun h₆ tk₆ G₆ ys' n₆ htk₆ x₆ hD₆ dys' off₆ hO₆ => ?_
      dsimp only at x₆ ⊢
      have y₆ : ExtW L (D :: (Wl ++ wr)) G₅ h₅ G₆ h₆ := x₆.more (fun b hb => by
        rcases List.mem_cons.mp hb with q | q
        · exact q ▸ .head _
        · exact inW _ q) (alW _ hO₅ ⟨_, hD₅⟩ hst₅)
      refine ⟨n + 1 - (i + 1), tl_less hlt, .mk (i := i + 1) (ys := ys ++ ys') (n' := n₆) htk₆ hlt (KT.frame _ _ _ hst₅ fun b hb o e => x₆.kp b o (fun q => hfL (q ▸ hb)) (fun q => ?_) e) ((x₄.trans y₅).trans y₆) hO₆ (by rw [← List.append_assoc]; exact hD₆) (fun p hp => ?_) ?_⟩
      · rcases List.mem_cons.mp q with q | q
        · exact hDfp (q ▸ hb)
        · exact hWfp b q hb
      · rcases y₆.fresh p hp with q | ⟨_, _, q⟩
        · exact off₅ p q
        · exact q
      · rw [hflt]
        exact ((dys.mono x₅.sub).mono x₆.sub).append dys'
  · obtain rfl : i = n := Nat.le_antisymm hi (Nat.le_of_not_lt hlt)
    refine wpToks (s := { s₁ with heap := h', toks := tk }) htk (KT.done _ _ _ hst' fun h₂ tk₂ hk₂ htk₂ => ?_)
    dsimp only at hk₂ htk₂ ⊢
    have y₂ : ExtW L (D :: (Wl ++ wr)) G' h' G' h₂ := ExtW.chg x.led hLWw off fun b o hb e => hk₂ b o (fun q => hb (inI b q)) e
    exact hR h₂ tk₂ G' ys n' htk₂ (x.trans y₂) (own _ _ hO' fun b hb o e => hk₂ b o (hWwr b hb) e) (hk₂ _ _ hDwr hD') dys off
end
end Mine
end

section
open PySem PySem.W PyProof.Rows PySem.Calls
set_option Elab.async false
set_option maxRecDepth 100000
set_option linter.all false
set_option maxHeartbeats 1000000
namespace Mine
theorem range_flat {α β : Type} (d0 : α) (c : α → Bool) (f : α → List β) : ∀ ds : List α, ((List.range ds.length).filter fun i => c (ds.getD i d0)).flatMap (fun i => f (ds.getD i d0)) = (ds.filter c).flatMap f
  | [] => rfl
  | d :: ds => by
    rw [List.length_cons, List.range_succ_eq_map, List.filter_cons, List.filter_map]
    have ih := range_flat d0 c f ds
    have e1 : ((fun i => c ((d :: ds).getD i d0)) ∘ Nat.succ) = fun i => c (ds.getD i d0) := by funext i; simp
    rw [e1]
    have e2 : ∀ l : List Nat, (l.map Nat.succ).flatMap (fun i => f ((d :: ds).getD i d0)) = l.flatMap (fun i => f (ds.getD i d0)) := fun l => by rw [List.flatMap_map]; simp
    have e3 : c ((d :: ds).getD 0 d0) = c d := rfl
    rw [e3, List.filter_cons]
    cases hc : c d with
    | true =>
      rw [if_pos rfl, if_pos rfl, List.flatMap_cons, List.flatMap_cons, e2, ih]
      rfl
    | false =>
      rw [if_neg (by simp), if_neg (by simp), e2, ih]
section
variable {prog : Program} {w : World} {A : Around} {h₀ : Heap} {L : Addr} {env : Env} {P : Ldg → Heap → Prop}
theorem EvTs.mono {P' : Ldg → Heap → Prop} {ifs : List PySem.Expr} {b : Bool} (h : EvTs prog w A L env P ifs b) (hP : ∀ G h, P' G h → P G h) : EvTs prog w A L env P' ifs b := ⟨fun s G Q E hp q hl k => h.run s G Q E hp (hP _ _ q) hl k⟩
theorem Ev.mono {P' : Ldg → Heap → Prop} {e : PySem.Expr} {d : Dat} (h : Ev prog w A L env P e d) (hP : ∀ G h, P' G h → P G h) : Ev prog w A L env P' e d := ⟨fun s G Q E hp q hl k => h.run s G Q E hp (hP _ _ q) hl k⟩
theorem em_one {cenv : Env} {elt : PySem.Expr} {d : Dat} {C D : Addr} {g : Heap} {Gg : Ldg} {lv : List (Str × Dat)} (hDL : D ≠ L) (hDC : D ≠ C) (hCL : C ≠ L) (h : Ev prog w A L cenv (CP P L C lv) elt d) :
    EmW prog w A L D [C] (fun h => ∃ m, h.Ns C m) (fun G h => Ext L Gg g G h ∧ CP P L C lv G h) (do let _ ← call (.builtin "list.append") [.ref D, ← eval elt cenv]) [d] :=
  emW_one (fun h h2 q kk => q.imp fun m nn => nn.at' fun o e => kk C (.head _) o e) (fun h q => all1 (P := fun b => ∃ o, h.get? b = some o) (q.elim fun m nn => nn.imp fun o r => r.elim fun _ r => r.elim fun _ r => r.1)) hDL (not1 hDC) (not1 (Ne.symm hCL)) (h.mono fun _ _ q => q.2)
/-- the block of a comprehension over any source whose iterator lies on top -/
theorem src_block {elt target iter : PySem.Expr} {more : List Comprehension} {ifs : List PySem.Expr} {scope : Scope} {cl : List (Str × Addr)} {pos : Pos} {s₁ : Shared} {G₁ : Ldg} {E : Value → Shared → Prop} {oI : Obj} {a₀ : Addr} {n : Nat} {Pv Md : Nat → Value → Heap → Prop} {St : Nat → Heap → Prop}
    {emit : Env → Value → Sem Unit} {RR : Value → Addr → Result → Shared → Prop} (bd : Nat → List (Str × Dat)) (c : Nat → Bool) (f : Nat → List Dat)
    (st : FrameOk h₀ L P) (hcell : ∀ y ∈ scope.names, y.2 ≠ .cell) (hkind : scope.kind = .function)
    (heq : ∀ I D C, compTurn (.ListComp elt (⟨target, iter, ifs, 0⟩ :: more) scope pos) 0 (.ref I) (.ref D) (compEnvC scope cl C env) = (do
      standAt iter.pos
      match ← pyNext (.ref I) with
      | none => pure (.done .next)
      | some v =>
        letOwnedTupleGo target (.ref I) v
        assign target (compEnvC scope cl C env) v
        let mut ok := true
        for c in ifs do
          if ok then ok ← isTrue c (compEnvC scope cl C env) (eval c (compEnvC scope cl C env))
        if ok then
          emit (compEnvC scope cl C env) (.ref D)
        again (.compLoop (.ListComp elt (⟨target, iter, ifs, 0⟩ :: more) scope pos) 0 (.ref I) (.ref D) (compEnvC scope cl C env))))
    (hP : P G₁ s₁.heap) (hl : Led G₁ s₁.heap) (hp : 0 < s₁.toks) (hsz : (((List.range n).filter c).flatMap f).length ≤ sizeLine)
    (hoI : oI.isFreed = false) (ha : a₀ < s₁.heap.objs.size) (haL : a₀ ≠ L) (KT : KTurns prog w A target s₁.heap.objs.size [s₁.heap.objs.size, a₀] [s₁.heap.objs.size] n Pv Md St)
    (aliveI : ∀ i h, St i h → ∃ o, h.get? s₁.heap.objs.size = some o) (hSt : ∀ h, (∀ b o, s₁.heap.get? b = some o → h.get? b = some o) → h.get? s₁.heap.objs.size = some oI → St 0 h)
    (hself : ∀ (Q : Value → Shared → Prop) (E : Value → Shared → Prop) (s' : Shared), s'.heap.get? s₁.heap.objs.size = some oI → Q (.ref s₁.heap.objs.size) s' → wpAny (model prog w) A (pyIter (.ref s₁.heap.objs.size)) Q E s')
    (hasg : ∀ C i, i < n → ∀ (s : Shared) (G : Ldg) (v : Value) (m : Str → Option Value) (Q : Unit → Shared → Prop) (E : Value → Shared → Prop), Pv i v s.heap → Led G s.heap → (∀ p ∈ G₁, p ∈ G) → (∀ p ∈ G, p.1 ≠ C) → s.heap.Ns C m →
      (∀ h' tk m', (∀ b o, b ≠ C → s.heap.get? b = some o → h'.get? b = some o) → h'.Ns C m' → Binds G m' (bd i) → Q () { s with heap := h', toks := tk }) → wpAny (model prog w) A (assign target (compEnvC scope cl C env) v) Q E s)
    (htest : ∀ C i, i < n → EvTs prog w A L (compEnvC scope cl C env) (CP P L C (bd i)) ifs (c i))
    (hem : ∀ C D i g Gg, i < n → c i = true → D ≠ L → D ≠ C → C ≠ L → g.get? C = none → g.get? D = none → P Gg g → EmW prog w A L D [C] (fun h => ∃ m, h.Ns C m) (fun G h => Ext L Gg g G h ∧ CP P L C (bd i) G h) (emit (compEnvC scope cl C env) (.ref D)) (f i))
    (hRR : ∀ D C h tk G' ys n' m', 0 < tk → Ext L G₁ s₁.heap ((D, W.listOf (List.toArray ys) n') :: G') h → DatAll G' ys (((List.range n).filter c).flatMap f) → h.Ns C m' → s₁.heap.get? C = none → C ≠ L → (∀ p ∈ (D, W.listOf (List.toArray ys) n') :: G', p.1 ≠ C) → RR (.ref D) C (.ok .next) { s₁ with heap := h, toks := tk }) :
    wpAny (model prog w) A (newList []) (fun acc s₃ => wpAny (model prog w) A (newFunctionEnv scope env.globals cl [] env.qual none .none (some env)) (fun cenv s₄ =>
      codeAny (model prog w) A (.compStart (.ListComp elt (⟨target, iter, ifs, 0⟩ :: more) scope pos) 0 (.ref s₁.heap.objs.size) acc { cenv with scope := relabel scope env }) (RR acc cenv.locals) s₄) E s₃) E { s₁ with heap := s₁.heap.push oI } := by
  refine wpAny_newObj_type (wpAny_newFunctionEnv hcell (by intro y hy; simp at hy) (fun h₁ hns₁ hsb₁ => ?_) hkind)
  dsimp only at hns₁ hsb₁ ⊢
  generalize hH1 : s₁.heap.push oI = H1 at hns₁ hsb₁ ⊢
  generalize hH2 : H1.push { cls := .type "list", dict := none, data := .seq ([] : List Value).toArray } = H2 at hns₁ hsb₁ ⊢
  have hIs : H1.objs.size = s₁.heap.objs.size + 1 := by rw [← hH1, Heap.size_push]
  have hCs : H2.objs.size = s₁.heap.objs.size + 2 := by rw [← hH2, Heap.size_push, hIs]
  have old1 : ∀ b o, s₁.heap.get? b = some o → h₁.get? b = some o := fun b o e => by
    have hb := Heap.lt_size e
    refine hsb₁.extBut b o (by rw [hCs]; exact Nat.ne_of_lt (Nat.lt_of_lt_of_le hb (Nat.le_add_right _ _))) (Heap.get?_push_of_some _ (hH2 ▸ Heap.get?_push_of_some _ (hH1 ▸ Heap.get?_push_of_some _ e)))
  have hI1 : h₁.get? s₁.heap.objs.size = some oI :=
    hsb₁.extBut _ _ (by rw [hCs]; exact Nat.ne_of_lt (by omega)) (Heap.get?_push_of_some _ (hH2 ▸ Heap.get?_push_of_some _ (hH1 ▸ Heap.get?_push_size _ hoI)))
  have hD1 : h₁.get? H1.objs.size = some (W.listOf (List.toArray []) 0) :=
    hsb₁.extBut _ _ (by rw [hIs, hCs]; exact Nat.ne_of_lt (by omega)) (Heap.get?_push_of_some _ (hH2 ▸ Heap.get?_push_size _ rfl))
  obtain ⟨mL, nL⟩ := st.ns _ _ hP
  have hLlt : L < s₁.heap.objs.size := nL.lt
  have gone : ∀ a, s₁.heap.objs.size ≤ a → s₁.heap.get? a = none := fun a ha => Heap.get?_none_of_le ha
  have hIL : s₁.heap.objs.size ≠ L := Nat.ne_of_gt hLlt
  have hDL : H1.objs.size ≠ L := by rw [hIs]; exact Nat.ne_of_gt (Nat.lt_of_lt_of_le hLlt (Nat.le_add_right _ _))
  have hCL : H2.objs.size ≠ L := by rw [hCs]; exact Nat.ne_of_gt (Nat.lt_of_lt_of_le hLlt (Nat.le_add_right _ _))
  have hDC : H1.objs.size ≠ H2.objs.size := by rw [hIs, hCs]; exact Nat.ne_of_lt (by omega)
  have hIC : s₁.heap.objs.size ≠ H2.objs.size := by rw [hCs]; exact Nat.ne_of_lt (by omega)
  have hID : s₁.heap.objs.size ≠ H1.objs.size := by rw [hIs]; exact Nat.ne_of_lt (by omega)
  have haxC : a₀ ≠ H2.objs.size := by rw [hCs]; exact Nat.ne_of_lt (Nat.lt_of_lt_of_le ha (Nat.le_add_right _ _))
  have haxD : a₀ ≠ H1.objs.size := by rw [hIs]; exact Nat.ne_of_lt (Nat.lt_of_lt_of_le ha (Nat.le_add_right _ _))
  have Glt : ∀ p ∈ G₁, p.1 ≠ s₁.heap.objs.size ∧ p.1 ≠ H2.objs.size ∧ p.1 ≠ H1.objs.size := fun p hp => by
    have hb := Heap.lt_size (hl p hp)
    rw [hCs, hIs]
    exact ⟨Nat.ne_of_lt hb, Nat.ne_of_lt (Nat.lt_of_lt_of_le hb (Nat.le_add_right _ _)), Nat.ne_of_lt (Nat.lt_of_lt_of_le hb (Nat.le_add_right _ _))⟩
  have hI₀ : s₁.heap.get? s₁.heap.objs.size = none := gone _ (Nat.le_refl _)
  have hD₀ : s₁.heap.get? H1.objs.size = none := gone _ (by rw [hIs]; exact Nat.le_succ _)
  have hC₀ : s₁.heap.get? H2.objs.size = none := gone _ (by rw [hCs]; omega)
  generalize hIe : s₁.heap.objs.size = I at *
  generalize hDe : H1.objs.size = D at *
  generalize hCe : H2.objs.size = C at *
  have x₁ : Ext L G₁ s₁.heap G₁ h₁ := Ext.of_kp hl old1
  have loop : codeAny (model prog w) A (.compLoop (.ListComp elt (⟨target, iter, ifs, 0⟩ :: more) scope pos) 0 (.ref I) (.ref D) (compEnvC scope cl C env)) (RR (.ref D) C) { s₁ with heap := h₁, toks := s₁.toks + ([] : List (Str × Value)).length } := by
    refine turn_loop (s₁ := s₁) (h₁ := h₁) (g := s₁.heap) (G₀ := G₁) (G₁ := G₁) (ys₀ := []) (Wl := [C]) (emit := emit (compEnvC scope cl C env) (.ref D)) (fun i G h => Ext L G₁ s₁.heap G h ∧ CP P L C (bd i) G h) c f (fun h => ∃ m, h.Ns C m) KT (heq I D C)
      (fun h h2 ⟨m, nn⟩ kk => ⟨m, nn.at' fun o e => kk C (.head _) o e⟩) (fun h q => all1 (P := fun b => ∃ o, h.get? b = some o) (q.elim fun m nn => nn.imp fun o r => r.elim fun _ r => r.elim fun _ r => r.1)) (fun i h hst => all1 (P := fun b => ∃ o, h.get? b = some o) (aliveI i h hst))
      (not2 (Ne.symm hIL) (Ne.symm haL)) hDL (not1 (Ne.symm hCL)) (all1 (P := fun b => b ∉ [I, a₀]) (not2 (Ne.symm hIC) (Ne.symm haxC))) (not2 (Ne.symm hID) (Ne.symm haxD)) (not1 hDC)
      x₁ (all3 (P := fun b => s₁.heap.get? b = none) hD₀ hC₀ hI₀) (hSt h₁ old1 hI1) ⟨_, hns₁⟩ hD1 (fun p hp => not3 (Glt p hp).2.2 (Glt p hp).2.1 (Glt p hp).1) (by simpa using hp) (by simpa using hsz) (fun i hi G1 h1 G2 h2 q y => ⟨q.1.trans y, (CP.frame st).stab _ _ _ _ q.2 y⟩) ?_ (fun i hi => (htest C i hi).mono fun _ _ q => q.2) (fun i hi hc => hem C D i s₁.heap G₁ hi hc hDL hDC hCL hC₀ hD₀ hP) ?_
    · intro i hi s' G₂ v Q' E' hPv l₂ y₂ off₂ ⟨m, nn⟩ kk
      refine hasg C i hi s' G₂ v m _ _ hPv l₂ y₂.sub (fun p hp q => off₂ p hp (q ▸ .head _)) nn fun h₃ tk₃ m₃ hk₃ n₃ b₃ => ?_
      exact kk h₃ tk₃ (fun b o hb e => hk₃ b o (fun q => hb (q ▸ .head _)) e) ⟨m₃, n₃⟩ fun y₃ => ⟨y₃, st.stab _ _ _ _ hP y₃, hCL, fun p hp q => off₂ p hp (q ▸ .head _), m₃, n₃, b₃⟩
    · intro h₂ tk₂ G₂ ys n₂ hp₂ x₂ ⟨m₂, hn₂⟩ hD₂ dys off₂
      rw [List.nil_append] at hD₂
      exact hRR D C h₂ tk₂ G₂ ys n₂ m₂ hp₂ ((ExtW.base x₁ x₂ (all3 (P := fun b => s₁.heap.get? b = none) hD₀ hC₀ hI₀)).more (tl := [(D, W.listOf (List.toArray ys) n₂)]) (fun p hp => by rw [List.mem_singleton] at hp; subst hp; exact hD₂) (fun p hp => by rw [List.mem_singleton] at hp; subst hp; exact ⟨hD₀, hDL⟩)) dys hn₂ hC₀ hCL (List.forall_mem_cons.mpr ⟨hDC, fun p hp q => off₂ p hp (q ▸ .tail _ (.head _))⟩)
  exact codeAny_compStart_list loop (hself _ _ _ hI1 loop)
/-- the loop of a comprehension over a list of data -/
theorem list_block {elt target iter : PySem.Expr} {more : List Comprehension} {ifs : List PySem.Expr} {scope : Scope} {cl : List (Str × Addr)} {pos : Pos} {s₁ : Shared} {G₁ : Ldg} {E : Value → Shared → Prop} {ax : Addr} {vs : List Value} {na : Nat} {ds : List Dat}
    {emit : Env → Value → Sem Unit} {RR : Value → Addr → Result → Shared → Prop} (bd : Dat → List (Str × Dat)) (c : Dat → Bool) (f : Dat → List Dat)
    (st : FrameOk h₀ L P) (hh : A.handled = none) (hcell : ∀ y ∈ scope.names, y.2 ≠ .cell) (hkind : scope.kind = .function)
    (heq : ∀ I D C, compTurn (.ListComp elt (⟨target, iter, ifs, 0⟩ :: more) scope pos) 0 (.ref I) (.ref D) (compEnvC scope cl C env) = (do
      standAt iter.pos
      match ← pyNext (.ref I) with
      | none => pure (.done .next)
      | some v =>
        letOwnedTupleGo target (.ref I) v
        assign target (compEnvC scope cl C env) v
        let mut ok := true
        for c in ifs do
          if ok then ok ← isTrue c (compEnvC scope cl C env) (eval c (compEnvC scope cl C env))
        if ok then
          emit (compEnvC scope cl C env) (.ref D)
        again (.compLoop (.ListComp elt (⟨target, iter, ifs, 0⟩ :: more) scope pos) 0 (.ref I) (.ref D) (compEnvC scope cl C env))))
    (hm : (ax, W.listOf (List.toArray vs) na) ∈ G₁) (dvs : DatAll G₁ vs ds) (hP : P G₁ s₁.heap) (hl : Led G₁ s₁.heap) (hp : 0 < s₁.toks) (hsz : ((ds.filter c).flatMap f).length ≤ sizeLine)
    (hasg : ∀ C d, d ∈ ds → AsgD prog w A (compEnvC scope cl C env) C target d (bd d))
    (htest : ∀ C d, d ∈ ds → EvTs prog w A L (compEnvC scope cl C env) (CP P L C (bd d)) ifs (c d))
    (hem : ∀ C D d g Gg, d ∈ ds → c d = true → D ≠ L → D ≠ C → C ≠ L → g.get? C = none → g.get? D = none → P Gg g → EmW prog w A L D [C] (fun h => ∃ m, h.Ns C m) (fun G h => Ext L Gg g G h ∧ CP P L C (bd d) G h) (emit (compEnvC scope cl C env) (.ref D)) (f d))
    (hRR : ∀ D C h tk G' ys n' m', 0 < tk → Ext L G₁ s₁.heap ((D, W.listOf (List.toArray ys) n') :: G') h → DatAll G' ys ((ds.filter c).flatMap f) → h.Ns C m' → s₁.heap.get? C = none → C ≠ L → (∀ p ∈ (D, W.listOf (List.toArray ys) n') :: G', p.1 ≠ C) → RR (.ref D) C (.ok .next) { s₁ with heap := h, toks := tk }) :
    wpAny (model prog w) A (pyIter (.ref ax)) (fun it s₂ => wpAny (model prog w) A (newList []) (fun acc s₃ => wpAny (model prog w) A (newFunctionEnv scope env.globals cl [] env.qual none .none (some env)) (fun cenv s₄ =>
      codeAny (model prog w) A (.compStart (.ListComp elt (⟨target, iter, ifs, 0⟩ :: more) scope pos) 0 it acc { cenv with scope := relabel scope env }) (RR acc cenv.locals) s₄) E s₃) E s₂) E s₁ := by
  have hax : s₁.heap.IsList ax (List.toArray vs) := ⟨_, hl _ hm, rfl, _, rfl⟩
  have hg := hl _ hm
  refine wpAny_pyIter_list hax ?_
  have haxlt : ax < s₁.heap.objs.size := Heap.lt_size hg
  have KT := KTurns.ofWalks (target := target) (Walks.list (prog := prog) (w := w) (A := A) hh s₁.heap.objs.size ax (Nat.ne_of_lt haxlt) (List.toArray vs)) fun i v s Q E st q => letGo_listiter st.1 q
  have hlenv : (List.toArray vs).size = ds.length := by rw [List.size_toArray]; exact dvs.length
  rw [hlenv] at KT
  have hget : ∀ i, i < ds.length → ds.getD i Dat.none ∈ ds := fun i hi => by rw [List.getD_eq_getElem?_getD, List.getElem?_eq_getElem hi]; exact List.getElem_mem hi
  refine src_block (fun i => bd (ds.getD i Dat.none)) (fun i => c (ds.getD i Dat.none)) (fun i => f (ds.getD i Dat.none)) st hcell hkind heq hP hl hp (by rw [range_flat]; exact hsz) rfl haxlt (st.off _ _ hP _ hm) KT (fun i h hst => hst.1.imp fun o r => r.1) (fun h k e => ⟨⟨_, e, rfl, rfl⟩, ⟨_, k _ _ hg, rfl, _, rfl⟩⟩)
    (fun Q E s' e q => wpAny_pyIter_listiter ⟨_, e, rfl, rfl⟩ q) (fun C i hi s G v m Q E hPv l₂ sub off nn kk => ?_) (fun C i hi => htest C _ (hget i hi)) (fun C D i g Gg hi hc => hem C D _ g Gg (hget i hi) hc) (fun D C h tk G' ys n' m' q1 q2 q3 => hRR D C h tk G' ys n' m' q1 q2 (by rw [range_flat] at q3; exact q3))
  have hdi : ds[i]? = some (ds.getD i Dat.none) := by rw [List.getD_eq_getElem?_getD, List.getElem?_eq_getElem hi]; rfl
  obtain ⟨v', hv', dv'⟩ := DatAll.get' (dvs.mono sub) hdi
  have : v' = v := by
    have h1 : vs[i]? = some v := by simpa using hPv
    rw [hv'] at h1; exact Option.some.inj h1
  subst this
  exact (hasg C _ (hget i hi)).run _ G m v' _ _ l₂ nn off dv' fun h₃ tk₃ m₃ hk₃ n₃ b₃ _ => kk h₃ tk₃ m₃ hk₃ n₃ b₃
end
end Mine
end

section
open PySem PySem.W PyProof.Rows PySem.Calls
set_option Elab.async false
set_option maxRecDepth 100000
set_option linter.all false
namespace Mine
theorem flat_one {α β : Type} (f : α → β) : ∀ l : List α, l.flatMap (fun d => [f d]) = l.map f
  | [] => rfl
  | a :: l => by rw [List.flatMap_cons, flat_one f l]; rfl
section
variable {prog : Program} {w : World} {A : Around} {h₀ : Heap} {L : Addr} {env : Env} {P : Ldg → Heap → Prop}
/-- a comprehension over a list of data, what a turn lays on given apart -/
theorem Ev.compE {elt target iter : PySem.Expr} {more : List Comprehension} {ifs : List PySem.Expr} {scope : Scope} {cl : List (Str × Addr)} {pos : Pos} {ds : List Dat} {emit : Env → Value → Sem Unit} (bd : Dat → List (Str × Dat)) (c : Dat → Bool) (f : Dat → List Dat)
    (st : FrameOk h₀ L P) (hh : A.handled = none) (hclos : closureFor scope env = pure cl) (hcell : ∀ y ∈ scope.names, y.2 ≠ .cell) (hkind : scope.kind = .function) (hnames : ∀ x ∈ scope.names, x.2 = .local → scope.names.lookup x.1 = some .local)
    (hiter : Ev prog w A L env P iter (.list ds)) (hsz : ((ds.filter c).flatMap f).length ≤ sizeLine)
    (heq : ∀ I D C, compTurn (.ListComp elt (⟨target, iter, ifs, 0⟩ :: more) scope pos) 0 (.ref I) (.ref D) (compEnvC scope cl C env) = (do
      standAt iter.pos
      match ← pyNext (.ref I) with
      | none => pure (.done .next)
      | some v =>
        letOwnedTupleGo target (.ref I) v
        assign target (compEnvC scope cl C env) v
        let mut ok := true
        for c in ifs do
          if ok then ok ← isTrue c (compEnvC scope cl C env) (eval c (compEnvC scope cl C env))
        if ok then
          emit (compEnvC scope cl C env) (.ref D)
        again (.compLoop (.ListComp elt (⟨target, iter, ifs, 0⟩ :: more) scope pos) 0 (.ref I) (.ref D) (compEnvC scope cl C env))))
    (hasg : ∀ C d, d ∈ ds → AsgD prog w A (compEnvC scope cl C env) C target d (bd d))
    (htest : ∀ C d, d ∈ ds → EvTs prog w A L (compEnvC scope cl C env) (CP P L C (bd d)) ifs (c d))
    (hem : ∀ C D d g Gg, d ∈ ds → c d = true → D ≠ L → D ≠ C → C ≠ L → g.get? C = none → g.get? D = none → P Gg g → EmW prog w A L D [C] (fun h => ∃ m, h.Ns C m) (fun G h => Ext L Gg g G h ∧ CP P L C (bd d) G h) (emit (compEnvC scope cl C env) (.ref D)) (f d))
    (hs : ∀ x, foldedSetIterable iter env x = pure x := by intro _; rfl) :
    Ev prog w A L env P (.ListComp elt (⟨target, iter, ifs, 0⟩ :: more) scope pos) (.list ((ds.filter c).flatMap f)) := Ev.of fun s G Q E hp hP hl k => by
  rw [arm_eval_ListComp]
  refine wpAny_comprehension_free (use := none) rfl hs hclos hkind hnames ?_
  show wpAny (model prog w) A (eval iter env) _ E s
  refine hiter.run s G _ _ hp hP hl fun v h' tk G' hp' x dv => ?_
  obtain ⟨a, vs, n, rfl, hm, hg, hla, r⟩ := isList_of x.led dv
  refine list_block (s₁ := { s with heap := h', toks := tk }) (G₁ := G') (emit := emit) bd c f st hh hcell hkind heq hm r (st.stab _ _ _ _ hP x) x.led hp' hsz hasg htest hem fun D C h₂ tk₂ G₂ ys n₂ m₂ hp₂ x₂ dys hn₂ hC₀ hCL offC => ?_
  refine ⟨m₂, hn₂, fun h₃ hs₃ => ?_⟩
  exact k _ h₃ tk₂ _ (x.trans ⟨fun b o hb e => hs₃.extBut _ _ (fun q => noAt q e hC₀) (x₂.kp b o hb e), fun m nn => (x₂.ns m nn).sameBut hs₃ (Ne.symm hCL), x₂.sub, x₂.fresh, fun p hp => hs₃.extBut _ _ (offC p hp) (x₂.led p hp)⟩) (.list (.head _) (dys.mono fun p hp => .tail _ hp))
/-- a comprehension with one for over a list of data -/
theorem Ev.comp {elt target iter : PySem.Expr} {ifs : List PySem.Expr} {scope : Scope} {cl : List (Str × Addr)} {pos : Pos} {ds : List Dat} (bd : Dat → List (Str × Dat)) (c : Dat → Bool) (f : Dat → Dat)
    (st : FrameOk h₀ L P) (hh : A.handled = none) (hclos : closureFor scope env = pure cl) (hcell : ∀ y ∈ scope.names, y.2 ≠ .cell) (hkind : scope.kind = .function) (hnames : ∀ x ∈ scope.names, x.2 = .local → scope.names.lookup x.1 = some .local)
    (hiter : Ev prog w A L env P iter (.list ds)) (hsz : ((ds.filter c).map f).length ≤ sizeLine)
    (hasg : ∀ C d, d ∈ ds → AsgD prog w A (compEnvC scope cl C env) C target d (bd d))
    (htest : ∀ C d, d ∈ ds → EvTs prog w A L (compEnvC scope cl C env) (CP P L C (bd d)) ifs (c d))
    (helt : ∀ C d, d ∈ ds → c d = true → Ev prog w A L (compEnvC scope cl C env) (CP P L C (bd d)) elt (f d))
    (hs : ∀ x, foldedSetIterable iter env x = pure x := by intro _; rfl) :
    Ev prog w A L env P (.ListComp elt [⟨target, iter, ifs, 0⟩] scope pos) (.list ((ds.filter c).map f)) := by
  have := Ev.compE (elt := elt) (more := []) (pos := pos) (emit := fun cenv acc => do let _ ← call (.builtin "list.append") [acc, ← eval elt cenv]) bd c (fun d => [f d]) st hh hclos hcell hkind hnames hiter (by rw [flat_one]; exact hsz) (fun _ _ _ => by rfl) hasg htest (fun C D d g Gg hd hc hDL hDC hCL _ _ _ => em_one hDL hDC hCL (helt C d hd hc)) hs
  rw [flat_one] at this
  exact this
end
inductive Loc (h₀ : Heap) (L : Addr) (lv : List (Str × Dat)) (G : Ldg) (h : Heap) : Prop
  | mk (m : Str → Option Value) (F : Fr h₀ L h m) (b : Binds G m lv) : Loc h₀ L lv G h
theorem Loc.fr {h₀ : Heap} {L : Addr} {lv : List (Str × Dat)} {G : Ldg} {h : Heap} (x : Loc h₀ L lv G h) : ∃ m, Fr h₀ L h m := by
  obtain ⟨m, F, _⟩ := x
  exact ⟨m, F⟩
theorem Loc.map {h₀ h₀' : Heap} {L L' : Addr} {lv lv' : List (Str × Dat)} {G G' : Ldg} {h h' : Heap} (x : Loc h₀ L lv G h) (k : ∀ m, Fr h₀ L h m → Binds G m lv → Fr h₀' L' h' m ∧ Binds G' m lv') : Loc h₀' L' lv' G' h' := by
  obtain ⟨m, F, b⟩ := x
  exact ⟨m, (k m F b).1, (k m F b).2⟩
/-- the frame of a def: its locals lv, its cells cv -/
structure FP (h₀ : Heap) (L : Addr) (G₀ : Ldg) (cells : List (Str × Addr)) (lv : List (Str × Dat)) (cv : List (Str × Addr × Dat)) (G : Ldg) (h : Heap) : Prop where
  loc : Loc h₀ L lv G h
  cls : ∀ x c, (x, c) ∈ cells → c ≠ L ∧ h₀.get? c = none ∧ (∀ p ∈ G, p.1 ≠ c) ∧ ∃ v, h.IsCell c v
  inj : ∀ x c x' , (x, c) ∈ cells → (x', c) ∈ cells → x = x'
  cel : ∀ x c d, (x, c, d) ∈ cv → (x, c) ∈ cells ∧ ∃ v, h.IsCell c (some v) ∧ DatIn G v d
  off : ∀ p ∈ G, p.1 ≠ L
  new : ∀ p ∈ G, p ∈ G₀ ∨ h₀.get? p.1 = none
  sub : ∀ p ∈ G₀, p ∈ G
theorem isCell_keep {h h' : Heap} {c : Addr} {v : Option Value} (x : h.IsCell c v) (k : ∀ o, h.get? c = some o → h'.get? c = some o) : h'.IsCell c v := by
  obtain ⟨o, e, d⟩ := x
  exact ⟨o, k o e, d⟩
theorem fr_ext {h₀ h h' : Heap} {L : Addr} {G G' : Ldg} {m : Str → Option Value} (F : Fr h₀ L h m) (x : Ext L G h G' h') : Fr h₀ L h' m :=
  ⟨x.ns m F.ns, fun b o e => x.kp b o (Nat.ne_of_lt (Nat.lt_of_lt_of_le (Heap.lt_size e) F.above)) (F.keep b o e), F.above⟩
theorem FP.frame {h₀ : Heap} {L : Addr} {G₀ : Ldg} {cells : List (Str × Addr)} {lv : List (Str × Dat)} {cv : List (Str × Addr × Dat)} : FrameOk h₀ L (FP h₀ L G₀ cells lv cv) where
  stab := fun G h G' h' y x => by
    obtain ⟨m, F, b⟩ := y.loc
    have off : ∀ p ∈ G', p.1 ≠ L := fun p hp => (x.fresh p hp).elim (y.off p) fun q => q.2
    refine ⟨⟨m, fr_ext F x, fun z d e => (b z d e).imp fun v q => ⟨q.1, q.2.mono x.sub⟩⟩, fun nx c hc => ?_, y.inj, fun nx c d e => ?_, off, fun p hp => ?_, fun p hp => x.sub p (y.sub p hp)⟩
    · obtain ⟨a1, a2, a3, v, a4⟩ := y.cls nx c hc
      refine ⟨a1, a2, fun p hp => ?_, v, isCell_keep a4 fun o e => x.kp _ _ a1 e⟩
      rcases x.fresh p hp with q | ⟨q, _⟩
      · exact a3 p q
      · intro e
        obtain ⟨o, ho, _⟩ := a4
        (first | exact noAt e q ho | exact noIs e q ho | exact (noAt e q ho).elim | exact (noIs e q ho).elim | (rw [e, ho] at q; cases q))
    · obtain ⟨hc, v, a4, dv⟩ := y.cel nx c d e
      exact ⟨hc, v, isCell_keep a4 fun o e => x.kp _ _ (y.cls nx c hc).1 e, dv.mono x.sub⟩
    · rcases x.fresh p hp with q | ⟨q, _⟩
      · exact y.new p q
      · refine .inr ?_
        cases e : h₀.get? p.1 with
        | none => rfl
        | some o => rw [F.keep _ _ e] at q; cases q
  fr := fun G h y => y.loc.fr
  off := fun G h y => y.off
theorem FP.enter {h₁ H : Heap} {G : Ldg} {L' : Addr} {m' : Str → Option Value} {lv : List (Str × Dat)} {nms : List (Str × Addr)} {cells : List (Addr × Obj)} {cv : List (Str × Addr × Dat)} (F' : Fr H L' h₁ m') (hl : Led G H) (b : Binds G m' lv) (N' : News H L' h₁ cells) (hc : ∀ x c, (x, c) ∈ nms → ∃ o v, (c, o) ∈ cells ∧ o.data = .cell v)
    (inj : ∀ x c x', (x, c) ∈ nms → (x', c) ∈ nms → x = x') (hcv : ∀ x c d, (x, c, d) ∈ cv → (x, c) ∈ nms ∧ ∃ o v, (c, o) ∈ cells ∧ o.data = .cell (some v) ∧ DatIn G v d) : FP H L' G nms lv cv G h₁ ∧ Led G h₁ := by
  refine ⟨⟨⟨m', F', b⟩, fun x c hc' => ?_, inj, fun x c d e => ?_, fun p hp => Nat.ne_of_lt (Nat.lt_of_lt_of_le (Heap.lt_size (hl p hp)) F'.above), fun p hp => .inl hp, fun p hp => hp⟩, fun p hp => F'.keep _ _ (hl p hp)⟩
  · obtain ⟨o, v, hp, e⟩ := hc x c hc'
    refine ⟨(N' _ hp).2.1, (N' _ hp).2.2, fun q hq e' => ?_, v, o, (N' _ hp).1, e⟩
    have := hl q hq
    rw [e', (N' _ hp).2.2] at this; cases this
  · obtain ⟨hm', o, v, hm, e1, dv⟩ := hcv x c d e
    exact ⟨hm', v, ⟨o, (N' _ hm).1, e1⟩, dv⟩
theorem FP.at {h₀ : Heap} {L : Addr} {G₀ : Ldg} {cells : List (Str × Addr)} {lv : List (Str × Dat)} {cv : List (Str × Addr × Dat)} {x : Str} {d : Dat} (e : (x, d) ∈ lv) : ∀ G h, FP h₀ L G₀ cells lv cv G h → ∃ m v, h.Ns L m ∧ m x = some v ∧ DatIn G v d := fun G h y => by
  obtain ⟨m, F, b⟩ := y.loc
  obtain ⟨v, e1, e2⟩ := b x d e
  exact ⟨m, v, F.ns, e1, e2⟩
theorem FP.atC {h₀ : Heap} {L : Addr} {G₀ : Ldg} {cells : List (Str × Addr)} {lv : List (Str × Dat)} {cv : List (Str × Addr × Dat)} {x : Str} {c : Addr} {d : Dat} (e : (x, c, d) ∈ cv) : ∀ G h, FP h₀ L G₀ cells lv cv G h → ∃ v, h.IsCell c (some v) ∧ DatIn G v d := fun G h y => (y.cel x c d e).2
theorem CP.at {P : Ldg → Heap → Prop} {L C : Addr} {lv : List (Str × Dat)} {x : Str} {d : Dat} (e : (x, d) ∈ lv) : ∀ G h, CP P L C lv G h → ∃ m v, h.Ns C m ∧ m x = some v ∧ DatIn G v d := fun G h ⟨_, _, _, m, n, b⟩ => by
  obtain ⟨v, e1, e2⟩ := b x d e
  exact ⟨m, v, n, e1, e2⟩
theorem CP.up {P : Ldg → Heap → Prop} {L C : Addr} {lv : List (Str × Dat)} {q : Ldg → Heap → Prop} (h : ∀ G h, P G h → q G h) : ∀ G h, CP P L C lv G h → q G h := fun G h' x => h G h' x.1
/-- statements from a frame -/
structure Run (prog : Program) (w : World) (A : Around) (env : Env) (s₀ : Shared) (P : Ldg → Heap → Prop) (ss : List Stmt) (Q : Flow → Shared → Prop) (E : Value → Shared → Prop) : Prop where
  run : ∀ h tk G, 0 < tk → P G h → Led G h → wpAny (model prog w) A (execs ss env) Q E { s₀ with heap := h, toks := tk }
section
variable {prog : Program} {w : World} {A : Around} {h₀ : Heap} {L : Addr} {env : Env} {P P' : Ldg → Heap → Prop} {s₀ : Shared} {Q : Flow → Shared → Prop} {E : Value → Shared → Prop}
theorem binds_cons {G : Ldg} {m : Str → Option Value} {lv : List (Str × Dat)} {x : Str} {v : Value} {d : Dat} (b : Binds G m lv) (dv : DatIn G v d) (hn : (lv.all fun p => p.1 != x) = true) : Binds G (fun y => if y = x then some v else m y) ((x, d) :: lv) := fun y d' e => by
  rcases List.mem_cons.mp e with q | q
  · cases q
    exact ⟨v, by simp, dv⟩
  · have hy : y ≠ x := by simpa using List.all_eq_true.mp hn _ q
    obtain ⟨v', e1, e2⟩ := b y d' q
    exact ⟨v', by simp [hy, e1], e2⟩
/-- some of what is known is forgotten -/
theorem FP.less {G₀ G : Ldg} {cells : List (Str × Addr)} {lv lv' : List (Str × Dat)} {cv cv' : List (Str × Addr × Dat)} {h : Heap} (y : FP h₀ L G₀ cells lv cv G h) (h1 : ∀ p ∈ lv', p ∈ lv) (h2 : ∀ p ∈ cv', p ∈ cv) : FP h₀ L G₀ cells lv' cv' G h :=
  ⟨y.loc.map fun m F b => ⟨F, fun x d e => b x d (h1 _ e)⟩, y.cls, y.inj, fun x c d e => y.cel x c d (h2 _ e), y.off, y.new, y.sub⟩
theorem Run.less {G₀ : Ldg} {cells : List (Str × Addr)} {lv : List (Str × Dat)} {cv : List (Str × Addr × Dat)} {ss : List Stmt} (lv' : List (Str × Dat)) (cv' : List (Str × Addr × Dat)) (h1 : ∀ p ∈ lv', p ∈ lv) (h2 : ∀ p ∈ cv', p ∈ cv) (k : Run prog w A env s₀ (FP h₀ L G₀ cells lv' cv') ss Q E) : Run prog w A env s₀ (FP h₀ L G₀ cells lv cv) ss Q E :=
  ⟨fun h tk G htk hP hl => k.run h tk G htk (hP.less h1 h2) hl⟩
theorem FP.set {G₀ G : Ldg} {cells : List (Str × Addr)} {lv : List (Str × Dat)} {cv : List (Str × Addr × Dat)} {h h' : Heap} {m : Str → Option Value} {x : Str} {v : Value} {d : Dat} (y : FP h₀ L G₀ cells lv cv G h) (F : Fr h₀ L h m) (b : Binds G m lv) (hl : Led G h) (hn : h'.Ns L (fun z => if z = x then some v else m z)) (hs : Heap.SameBut L h h') (dv : DatIn G v d) (hnw : (lv.all fun p => p.1 != x) = true) : FP h₀ L G₀ cells ((x, d) :: lv) cv G h' ∧ Led G h' :=
  ⟨⟨⟨_, F.set hn hs, binds_cons b dv hnw⟩, fun nx c hc => (by
      obtain ⟨a1, a2, a3, u, a4⟩ := y.cls nx c hc
      exact ⟨a1, a2, a3, u, isCell_keep a4 fun o e => hs.extBut _ _ a1 e⟩), y.inj, fun nx c d' e => (by
      obtain ⟨hc, u, a4, du⟩ := y.cel nx c d' e
      exact ⟨hc, u, isCell_keep a4 fun o e => hs.extBut _ _ (y.cls nx c hc).1 e, du⟩), y.off, y.new, y.sub⟩, fun p hp => hs.extBut _ _ (y.off p hp) (hl p hp)⟩
theorem Run.asg {G₀ : Ldg} {cells : List (Str × Addr)} {lv : List (Str × Dat)} {cv : List (Str × Addr × Dat)} {x : Str} {pos' pos : Pos} {value : PySem.Expr} {rest : List Stmt} {d : Dat} (hL : env.locals = L) (h : Ev prog w A L env (FP h₀ L G₀ cells lv cv) value d)
    (k : Run prog w A env s₀ (FP h₀ L G₀ cells ((x, d) :: lv) cv) rest Q E) (hs : swapsWith value (some (.Name x pos')) pos.line env = pure false := by rfl) (hx : env.kindOf x = some .local := by kernel_rfl!) (hnw : (lv.all fun p => p.1 != x) = true := by kernel_rfl!)
    (hp : (env.scope.kind == .class || (env.scope.kind == .module && env.locals != env.globals)) = false := by kernel_rfl!) :
    Run prog w A env s₀ (FP h₀ L G₀ cells lv cv) (.Assign [.Name x pos'] value pos :: rest) Q E := .mk fun h' tk G htk hP hl => by
  subst hL
  refine wpAny_execs_cons (wpAny_Assign_Name (h.run _ G _ _ htk hP hl fun v h₂ tk₂ G₂ htk₂ z dv => ?_) hs)
  have hP₂ := FP.frame.stab _ _ _ _ hP z
  obtain ⟨m, F, b⟩ := hP₂.loc
  refine wpToks (s := { s₀ with heap := h₂, toks := tk₂ }) htk₂ (wpAny_storeName_local hx F.ns (fun h₃ hn hs₃ htk₃ => ?_) hp)
  obtain ⟨y, l₃⟩ := hP₂.set F b z.led hn hs₃ dv hnw
  exact k.run h₃ _ G₂ htk₃ y l₃
theorem Run.asgC {G₀ : Ldg} {cells : List (Str × Addr)} {lv : List (Str × Dat)} {cv : List (Str × Addr × Dat)} {x : Str} {pos' pos : Pos} {value : PySem.Expr} {rest : List Stmt} {d : Dat} {c : Addr} (h : Ev prog w A L env (FP h₀ L G₀ cells lv cv) value d) (hc : (x, c) ∈ cells)
    (k : Run prog w A env s₀ (FP h₀ L G₀ cells lv ((x, c, d) :: cv)) rest Q E) (hs : swapsWith value (some (.Name x pos')) pos.line env = pure false := by rfl) (hx : env.kindOf x = some .cell := by kernel_rfl!) (hk : env.scope.kind = .function := by kernel_rfl!) (hnw : (cv.all fun p => p.1 != x) = true := by kernel_rfl!)
    (hcl : env.cells.lookup x = some c := by kernel_rfl!) :
    Run prog w A env s₀ (FP h₀ L G₀ cells lv cv) (.Assign [.Name x pos'] value pos :: rest) Q E := .mk fun h' tk G htk hP hl => by
  refine wpAny_execs_cons (wpAny_Assign_Name (h.run _ G _ _ htk hP hl fun v h₂ tk₂ G₂ htk₂ z dv => ?_) hs)
  have hP₂ := FP.frame.stab _ _ _ _ hP z
  obtain ⟨c1, c2, c3, u, c4⟩ := hP₂.cls x c hc
  refine wpToks (s := { s₀ with heap := h₂, toks := tk₂ }) htk₂ (wpAny_storeName_cell hk hx hcl c4 fun h₃ hn hs₃ htk₃ => ?_)
  obtain ⟨m, F, b⟩ := hP₂.loc
  refine k.run h₃ _ G₂ htk₃ ⟨⟨m, F.change hs₃ c1 c2, b⟩, fun x' c' hc' => ?_, hP₂.inj, fun x' c' d' e => ?_, hP₂.off, hP₂.new, hP₂.sub⟩ fun p hp => hs₃.extBut _ _ (c3 p hp) (z.led p hp)
  · obtain ⟨a1, a2, a3, u', a4⟩ := hP₂.cls x' c' hc'
    by_cases q : c' = c
    · subst q; exact ⟨a1, a2, a3, _, hn⟩
    · exact ⟨a1, a2, a3, u', isCell_keep a4 fun o e => hs₃.extBut _ _ q e⟩
  · rcases List.mem_cons.mp e with q | q
    · cases q
      exact ⟨hc, v, hn, dv⟩
    · have q' : x' ≠ x := by simpa using List.all_eq_true.mp hnw _ q
      obtain ⟨hc', u', a4, du⟩ := hP₂.cel x' c' d' q
      exact ⟨hc', u', isCell_keep a4 fun o e => hs₃.extBut _ _ (fun r => q' (hP₂.inj _ _ _ hc' (r ▸ hc))) e, du⟩
theorem Run.ret {value : PySem.Expr} {pos : Pos} {rest : List Stmt} {d : Dat} (st : FrameOk h₀ L P) (h : Ev prog w A L env P value d)
    (k : ∀ v h tk G, 0 < tk → P G h → Led G h → DatIn G v d → Q (.ret v) { s₀ with heap := h, toks := tk }) : Run prog w A env s₀ P (.Return (some value) pos :: rest) Q E := .mk fun h' tk G htk hP hl =>
  wpAny_execs_cons (wpAny_Return_some (h.run _ G _ _ htk hP hl fun v h₂ tk₂ G₂ htk₂ z dv => k v h₂ tk₂ G₂ htk₂ (st.stab _ _ _ _ hP z) z.led dv))
/-- a name set to a comprehension's list -/
theorem Run.asgComp {G₀ : Ldg} {cells : List (Str × Addr)} {lv : List (Str × Dat)} {cv : List (Str × Addr × Dat)} {y : Str} {py spos : Pos} {elt target iter : PySem.Expr} {ifs : List PySem.Expr} {scope : Scope} {cl : List (Str × Addr)} {pos : Pos} {rest : List Stmt} {ds : List Dat} (bd : Dat → List (Str × Dat)) (c : Dat → Bool) (f : Dat → Dat)
    (hL : env.locals = L) (hh : A.handled = none) (hclos : closureFor scope env = pure cl) (hcell : ∀ y ∈ scope.names, y.2 ≠ .cell) (hkind : scope.kind = .function) (hnames : ∀ x ∈ scope.names, x.2 = .local → scope.names.lookup x.1 = some .local)
    (hiter : Ev prog w A L env (FP h₀ L G₀ cells lv cv) iter (.list ds)) (hsz : ((ds.filter c).map f).length ≤ sizeLine)
    (hasg : ∀ C d, d ∈ ds → AsgD prog w A (compEnvC scope cl C env) C target d (bd d))
    (htest : ∀ C d, d ∈ ds → EvTs prog w A L (compEnvC scope cl C env) (CP (FP h₀ L G₀ cells lv cv) L C (bd d)) ifs (c d))
    (helt : ∀ C d, d ∈ ds → c d = true → Ev prog w A L (compEnvC scope cl C env) (CP (FP h₀ L G₀ cells lv cv) L C (bd d)) elt (f d))
    (k : Run prog w A env s₀ (FP h₀ L G₀ cells ((y, .list ((ds.filter c).map f)) :: lv) cv) rest Q E)
    (hsw : swapsWith (.ListComp elt [⟨target, iter, ifs, 0⟩] scope pos) (some (.Name y py)) spos.line env = pure true := by rfl)
    (hs : ∀ x, foldedSetIterable iter env x = pure x := by intro _; rfl) (hx : env.kindOf y = some .local := by kernel_rfl!) (hnw : (lv.all fun p => p.1 != y) = true := by kernel_rfl!)
    (hp : (env.scope.kind == .class || (env.scope.kind == .module && env.locals != env.globals)) = false := by kernel_rfl!) :
    Run prog w A env s₀ (FP h₀ L G₀ cells lv cv) (.Assign [.Name y py] (.ListComp elt [⟨target, iter, ifs, 0⟩] scope pos) spos :: rest) Q E := .mk fun h' tk G htk hP hl => by
  subst hL
  refine wpAny_execs_cons ?_
  rw [exec_Assign_Name_used _ _ _ _ hsw]
  refine wpAny_bind (wpAny_standAt (wpAny_bind ?_))
  show wpAny _ A (do let _ ← comprehension (.ListComp elt [⟨target, iter, ifs, 0⟩] scope pos) scope env _ (newList []) false (eval iter env) (some (assign (.Name y py) env))) _ _ _
  refine wpAny_bind (wpAny_mono (wpAny_comprehension_free (use := some (assign (.Name y py) env)) (Q := fun _ s' => wpAny (model prog w) A (execs rest env) Q E s') rfl hs hclos hkind hnames ?_) (fun _ s' hq => wpAny_pure (wpAny_pure hq)) fun _ _ e => e)
  refine hiter.run _ G _ _ htk hP hl fun v h₁ tk₁ G₁ htk₁ x dv => ?_
  have hP₁ := FP.frame.stab _ _ _ _ hP x
  obtain ⟨a, vs, n, rfl, hm, hg, hla, r⟩ := isList_of x.led dv
  refine list_block (s₁ := { s₀ with heap := h₁, toks := tk₁ }) (G₁ := G₁) (emit := fun cenv acc => do let _ ← call (.builtin "list.append") [acc, ← eval elt cenv]) bd c (fun d => [f d]) FP.frame hh hcell hkind (fun _ _ _ => by rfl) hm r hP₁ x.led htk₁ (by rw [flat_one]; exact hsz) hasg htest (fun C D d g Gg hd hc hDL hDC hCL _ _ _ => em_one hDL hDC hCL (helt C d hd hc)) fun D C h₂ tk₂ G₂ ys n₂ m₂ hp₂ x₂ dys hn₂ hC₀ hCL offC => ?_
  rw [flat_one] at dys
  show wpAny _ A (assign (.Name y py) env (.ref D)) _ _ _
  have hP₂ := FP.frame.stab _ _ _ _ hP₁ x₂
  obtain ⟨m, F, b⟩ := hP₂.loc
  refine wpToks (s := { s₀ with heap := h₂, toks := tk₂ }) hp₂ (wpAny_assign_Name (wpAny_storeName_local hx F.ns (fun h₃ hn hs₃ htk₃ => ?_) hp))
  obtain ⟨Y, l₃⟩ := hP₂.set (d := .list ((ds.filter c).map f)) F b x₂.led hn hs₃ (.list (.head _) (dys.mono fun p hp => .tail _ hp)) hnw
  refine ⟨m₂, hn₂.sameBut hs₃ hCL, fun h₄ hs₄ => ?_⟩
  have l₄ : Led ((D, W.listOf (List.toArray ys) n₂) :: G₂) h₄ := fun p hp => hs₄.extBut _ _ (offC p hp) (l₃ p hp)
  have x₄ : Ext env.locals ((D, W.listOf (List.toArray ys) n₂) :: G₂) h₃ ((D, W.listOf (List.toArray ys) n₂) :: G₂) h₄ → True := fun _ => trivial
  refine k.run h₄ _ _ htk₃ ?_ l₄
  -- the frame C of the comprehension is let go; nothing else has changed
  obtain ⟨m', F', b'⟩ := Y.loc
  have hC₃ : h₀.get? C = none := by
    cases e : h₀.get? C with
    | none => rfl
    | some o =>
      obtain ⟨m0, F0, _⟩ := hP₁.loc
      have e' := F0.keep _ _ e
      dsimp only at hC₀
      (first | exact noBoth hC₀ e' | exact noBoth e' hC₀ | exact (noBoth hC₀ e').elim | exact (noBoth e' hC₀).elim | (rw [hC₀] at e'; cases e'))
  refine ⟨⟨m', F'.change hs₄ hCL hC₃, b'⟩, fun x' c' hc' => ?_, Y.inj, fun x' c' d' e => ?_, Y.off, Y.new, Y.sub⟩
  · obtain ⟨a1, a2, a3, u, a4⟩ := Y.cls x' c' hc'
    obtain ⟨_, _, _, u1, b4⟩ := hP₁.cls x' c' hc'
    refine ⟨a1, a2, a3, u, isCell_keep a4 fun o e => hs₄.extBut _ _ (fun q => ?_) e⟩
    obtain ⟨o1, e1, _⟩ := b4
    rw [q] at e1
    dsimp only at hC₀
    (first | exact noBoth hC₀ e1 | exact noBoth e1 hC₀ | exact (noBoth hC₀ e1).elim | exact (noBoth e1 hC₀).elim | (rw [hC₀] at e1; cases e1))
  · obtain ⟨hc', u, a4, du⟩ := Y.cel x' c' d' e
    refine ⟨hc', u, isCell_keep a4 fun o e => hs₄.extBut _ _ (fun q => ?_) e, du⟩
    obtain ⟨_, _, _, u1, o1, e1, _⟩ := hP₁.cls x' c' hc'
    rw [q] at e1
    dsimp only at hC₀
    (first | exact noBoth hC₀ e1 | exact noBoth e1 hC₀ | exact (noBoth hC₀ e1).elim | exact (noBoth e1 hC₀).elim | (rw [hC₀] at e1; cases e1))
end
end Mine
end

section
open PySem PySem.W PyProof.Rows PySem.Calls
set_option Elab.async false
set_option maxRecDepth 100000
set_option linter.all false
namespace Mine
/-- where a call is made: the frame at hand and what lies below it -/
structure Site (w : World) (loose : List Str) (mean : ExcName → Option Value) (mg mb : Str → Option Value) (dp un : Nat) (cs : Scope) (outer : List Env) (A₀ : Around) (base h₀ : Heap) : Prop where
  B : Below A₀ base outer h₀
  X : (hd.heap_39 w.params).In h₀
  T : Top hd.view_39 loose mean mg mb h₀
  hk : cs.kind = .function
  hd : dp + 60 < recursionLimit
  hu : un + 200 < cLine
/-- what a def of the text gives for data -/
structure FnD (f : Addr) (need : Nat) (ds : List Dat) (d : Dat) : Prop where
  run : ∀ (w : World) (loose : List Str) (mean : ExcName → Option Value) (mg mb : Str → Option Value) (dp un : Nat) (gd : Option (List Code)) (cn : Str) (cs : Scope) (a : Addr) (ccd : Value) (cl : List (Str × Addr)) (outer : List Env) (A₀ : Around) (base h₀ : Heap) (L : Addr) (m : Str → Option Value) (s : Shared) (G : Ldg) (vs : List Value) (Q E : Value → Shared → Prop),
    Below A₀ base outer h₀ → (hd.heap_39 w.params).In h₀ → Top hd.view_39 loose mean mg mb h₀ → cs.kind = .function → dp + 10 * need < recursionLimit → un + 40 * need + 64 < cLine → Fr h₀ L s.heap m → 0 < s.toks → Led G s.heap → DatAll G vs ds →
    (∀ v h' tk G', Kp s.heap h' → (∀ p ∈ G, p ∈ G') → (∀ p ∈ G', p ∈ G ∨ s.heap.get? p.1 = none) → Led G' h' → DatIn G' v d → Q v { s with heap := h', toks := tk }) →
    wpAny (model PySem.Challenge.rw_om0036_01.row.prog w) (ktrTop dp un gd cn cs L a ccd cl outer) (call (.ref f) vs) Q E s
/-- into a def with cells -/
theorem enterC {w : World} {loose : List Str} {mean : ExcName → Option Value} {mg mb : Str → Option Value} {A A₀ : Around} {base h₀ : Heap} {outer : List Env} {L : Addr} {m : Str → Option Value} {env : Env} {s : Shared} {R : Result → Shared → Prop} {prog p : Program} {K : Frag}
    {name qual : Str} {params : Arguments} {body : List Stmt} {scope : Scope} {dV kV doc pm cdv ct oc : Value} {an od : Option Addr} {osl : Array (Option Value)} {f : Addr} {args : Args} {binds : List (Str × Value)}
    (B : Below A₀ base outer h₀) (F : Fr h₀ L s.heap m) (X₀ : K.In h₀) (T : Top p loose mean mg mb h₀) (hA : A.frames = some (env :: outer)) (hf : env.frame = some L) (hke : env.scope.kind = .function)
    (ho : K.lookup f = some ⟨oc, od, .func (fnOf name qual params body scope dV kV doc pm an cdv ct), osl⟩) (hcd : codeIn K cdv qual = true) (hroom : A.depth < recursionLimit)
    (hbind : BindsTo s (fnOf name qual params body scope dV kV doc pm an cdv ct) args binds) (hkind : (binds.all fun y => scope.names.lookup y.1 == some .local || scope.names.lookup y.1 == some .cell) = true)
    (hnd : ((cellsFrom 0 scope.names []).map (·.1)).Nodup)
    (h : ∀ L' h₁ tk cells, s.toks ≤ tk → Fr s.heap L' h₁ (bindL (envOfC qual scope L' f cdv).kindOf binds fun _ => none) → News s.heap L' h₁ cells →
      CellsAre (bindC (envOfC qual scope L' f cdv).kindOf binds fun _ => none) (cellsFrom (L' + 1) scope.names []) cells → Below A base (env :: outer) s.heap → K.In s.heap → Top p loose mean mg mb s.heap →
      wpAny (model prog w) (A.deeper (envOfC qual scope L' f cdv)) (execs body (envOfC qual scope L' f cdv))
        (fun fl s' => R (.ok (.ret (match fl with | .ret v => v | _ => .none))) s')
        (fun e s' => wpAny (model prog w) (A.deeper (envOfC qual scope L' f cdv)) (leaving (envOfC qual scope L' f cdv) e) (fun _ s'' => R (.error e) s'') (fun e' s'' => R (.error e') s'') s')
        { s with heap := h₁, toks := tk })
    (hco : scope.isCoroutine = false) (hgen : scope.isGenerator = false) (hk : scope.kind = .function) : codeAny (model prog w) A (.call (.ref f) args) R s := by
  obtain ⟨FG, BG, st, lv⟩ := groundX (R := R) B F (News.nil) hA hf hke
  refine codeAny_call_function hroom ((X₀.keeps F.keep) _ _ ho) rfl hco hgen rfl (codeRec_of (X₀.keeps F.keep) hcd) (hbind _ _ _ _ ?_)
  refine wpAny_toks (wpAny_newFunctionEnv_cells hk (kindsX hkind _) fun env' he s' x hle => ?_)
  subst he
  refine ⟨(T.nolimit.keeps F.keep).keeps x.toInCall.keep, codeAny_func ?_⟩
  obtain ⟨h₁, tk, rfl, _⟩ := x.done
  have hk₁ := x.toInCall.keep
  obtain ⟨cells, NC, Y⟩ := Cl.news (h₀ := s.heap) (Nat.le_refl _) fun n c hm => ⟨x.cell n c (lookup_of_mem_nodup (cellsFrom_names scope.names 0 (s.heap.objs.size + 1) [] [] rfl ▸ hnd) hm), x.above n c hm⟩
  exact h s.heap.objs.size h₁ tk cells hle ⟨x.toInCall.ns, fun b o e => hk₁ b o e, Nat.le_refl _⟩ NC Y BG (X₀.keeps F.keep) (T.keeps F.keep)
end Mine
namespace Mine
section
variable {prog : Program} {w : World} {A : Around} {h₀ : Heap} {L : Addr} {env : Env} {P : Ldg → Heap → Prop} {G₀ : Ldg} {cells : List (Str × Addr)} {lv : List (Str × Dat)} {cv : List (Str × Addr × Dat)}
/-- a captured name, through the comprehensions' frames -/
theorem Ev.cap {x : Str} {pos : Pos} {d : Dat} {c : Addr} (hP : ∀ G h, P G h → FP h₀ L G₀ cells lv cv G h) (e : (x, c, d) ∈ cv) (hk : env.scope.kind = .function := by kernel_rfl!) (hx : env.kindOf x = some .cell := by kernel_rfl!) (hc : env.cells.lookup x = some c := by kernel_rfl!) (hd : (x == ("__debug__" : Str)) = false := by kernel_rfl!) :
    Ev prog w A L env P (.Name x pos) d := Ev.cell (fun G h y => FP.atC e G h (hP G h y)) hk hx hc hd
/-- a call of a def of the text -/
theorem Ev.call {f : Addr} {fn : Str} {pos npos : Pos} {need : Nat} {e₀ : PySem.Expr} {es : List PySem.Expr} {ds : List Dat} {d : Dat} {loose : List Str} {mean : ExcName → Option Value} {mg mb : Str → Option Value} {dp un : Nat} {gd : Option (List Code)} {cn : Str} {cs : Scope} {a : Addr} {ccd : Value} {cl : List (Str × Addr)} {outer : List Env} {A₀ : Around} {base : Heap} {fo : Obj} {fd : FuncData}
    (st : FrameOk h₀ L P) (B : Below A₀ base outer h₀) (X : (hd.heap_39 w.params).In h₀) (T : Top hd.view_39 loose mean mg mb h₀) (hk : cs.kind = .function) (hd1 : dp + 10 * need < recursionLimit) (hu : un + 40 * need + 64 < cLine)
    (c : FnD f need ds d) (hargs : EvL PySem.Challenge.rw_om0036_01.row.prog w (ktrTop dp un gd cn cs L a ccd cl outer) L env P (e₀ :: es) ds)
    (hg : nsIn (hd.heap_39 w.params) mainGlobals fn = some (some (.ref f)) := by rfl) (ho : (hd.heap_39 w.params).lookup f = some fo := by rfl) (hfo : fo.data = .func fd := by rfl) (hke : env.scope.kind = .function := by kernel_rfl!) (hx : env.kindOf fn = some .globalImplicit := by kernel_rfl!) (hgl : env.globals = mainGlobals := by kernel_rfl!) (hdb : (fn == ("__debug__" : Str)) = false := by kernel_rfl!)
    (he : starEach (e₀ :: es) env = (false, eval e₀ env) :: starEach es env := by rfl)
    (hcall : eval (.Call (.Name fn npos) (e₀ :: es) [] pos) env = (do callWith pos (← eval (.Name fn npos) env) [] (backTo pos (starEach (e₀ :: es) env)) (backToKw pos (keywordEach [] env))) := by rfl) :
    Ev PySem.Challenge.rw_om0036_01.row.prog w (ktrTop dp un gd cn cs L a ccd cl outer) L env P (.Call (.Name fn npos) (e₀ :: es) [] pos) d := Ev.of fun s G Q E hp hP hl k => by
  obtain ⟨m, F⟩ := st.fr _ _ hP
  refine Call_ (Name_function_global hke hx (loadGlobal_global (by rw [hgl]; exact T.g.keeps F.keep) (mg_of X T.g hg) ?_) hdb) hcall
  refine callWith_def hfo (hargs.run pos s G _ _ hp hP hl fun vs h' tk G' hp' x dvs => ?_) he
  have hP' := st.stab _ _ _ _ hP x
  obtain ⟨m', F'⟩ := st.fr _ _ hP'
  refine ⟨F'.keep _ _ (X _ _ ho), ?_⟩
  refine c.run w loose mean mg mb dp un gd cn cs a ccd cl outer A₀ base h₀ L m' { s with heap := h', toks := tk } G' vs Q E B X T hk hd1 hu F' hp' x.led dvs fun v h'' tk' G'' kp sub fr led dv => ?_
  refine k v h'' tk' G'' (x.trans ⟨fun b o _ e => kp b o e, fun m2 n => n.at' fun o e => kp _ _ e, sub, fun p hp => (fr p hp).imp id fun q => ⟨q, fun e => ?_⟩, led⟩) dv
  obtain ⟨o, _, _, ho', _⟩ := F'.ns
  try dsimp only at q
  (first | exact noAt e q ho' | exact noIs e q ho' | exact (noAt e q ho').elim | exact (noIs e q ho').elim | (rw [e, ho'] at q; cases q))
end
end Mine
end

section
open PySem PySem.W PyProof.Rows PySem.Calls
set_option Elab.async false
set_option maxRecDepth 100000
set_option linter.all false
set_option maxHeartbeats 1000000
namespace Mine
/-- what may be handled where an exception is raised -/
def HOk (A : Around) (h : Heap) : Prop := A.handled = none ∨ ∃ e₁ o₁ vs₁, A.handled = some (.ref e₁) ∧ h.get? e₁ = some o₁ ∧ o₁.data = .fields vs₁ ∧ vs₁[2]? = some .none
/-- a new exception of a built-in class; its context is c -/
structure NewX (cls : String) (cx : Value) (h h' : Heap) (e : Addr) : Prop where
  keeps : ∀ b o, h.get? b = some o → h'.get? b = some o
  new : h.get? e = none
  there : ∃ ob t, h'.get? e = some ob ∧ ob.cls = .type cls ∧ ob.data = .fields #[t, .none, cx, .none, .bool false, .none]
theorem entry_unchain : entryFor table "proto.unchain" = some Builtin.«proto.unchain» := entryFor_of_fast (by kernel_rfl)
section
variable {prog : Program} {w : World} {A : Around} {E : Value → Shared → Prop} {s : Shared} {α : Type}
theorem wpAny_field' {M : Model} {e : Addr} {oe : Obj} {vs : Array Value} {i : Nat} {x : Value} {Q : Value → Shared → Prop} (he : s.heap.get? e = some oe) (hd : oe.data = .fields vs) (h1 : vs[i]? = some x) (h : Q x s) : wpAny M A (field (.ref e) i) Q E s := wpAny_field he hd h1 h
theorem raiseNew_h {a e₁ : Addr} {oe o₁ : Obj} {vs vs₁ : Array Value} {Q : α → Shared → Prop} (hh : A.handled = some (.ref e₁)) (hne : e₁ ≠ a) (he : s.heap.get? a = some oe) (hd : oe.data = .fields vs) (hsz : 2 < vs.size) (he₁ : s.heap.get? e₁ = some o₁) (hd₁ : o₁.data = .fields vs₁) (h2 : vs₁[2]? = some .none)
    (h : E (.ref a) { s with heap := s.heap.update a (Obj.mapFields (·.setIfInBounds 2 (.ref e₁))) }) : wpAny (model prog w) A (raiseNew (.ref a) : Sem α) Q E s := by
  unfold raiseNew
  refine wpAny_bind (wpAny_handled ?_)
  rw [hh]
  have hn : (Value.ref e₁ != Value.ref a) = true := by
    simp only [bne_iff_ne, ne_eq, Value.ref.injEq]; exact hne
  dsimp only
  rw [if_pos hn]
  refine wpAny_bind (wpAny_holding (wpAny_runValue (codeAny_builtin entry_unchain ?_)))
  show wpAny (model prog w) _ (field (.ref e₁) 2 >>= _) _ _ s
  refine wpAny_bind (wpAny_field' he₁ hd₁ h2 ?_)
  rw [if_pos (by rfl)]
  refine wpAny_pure ?_
  refine wpAny_bind ?_
  show wpAny (model prog w) A (setField (.ref a) 2 (.ref e₁)) _ _ s
  refine wpAny_setField he hd hsz ?_
  exact wpAny_throw h
theorem raise_words {msg : String} {Q : α → Shared → Prop} (hH : HOk A s.heap) (h : ∀ h' tk e cx, (A.handled = none → cx = .none) → NewX "IndexError" cx s.heap h' e → E (.ref e) { s with heap := h', toks := tk }) :
    wpAny (model prog w) A (raiseErrorWords "IndexError" msg : Sem α) Q E s := by
  have hp := plainExc_IndexError
  unfold raiseErrorWords
  refine wpAny_bind (wpAny_mkText (wpAny_bind ?_))
  unfold newExc newTuple
  refine wpAny_bind (wpAny_newObj_type ?_)
  refine wpAny_bind (m := firstArgMember _ _) (wpAny_of_eq (a := Value.none) (by simp only [firstArgMember, hp.first]; rfl) ?_)
  rw [hp.own]
  refine wpAny_newObj_type ?_
  rcases hH with hh | ⟨e₁, o₁, vs₁, hh, he₁, hd₁, h2⟩
  · refine wpAny_raiseNew_none hh ?_
    exact h _ _ _ .none (fun _ => rfl) ⟨fun b o hb => Heap.get?_push_of_some _ (Heap.get?_push_of_some _ hb), Heap.get?_none_of_le (by simp), _, .ref s.heap.objs.size, Heap.get?_push_size _ rfl, rfl, by simp⟩
  · have he₁lt : e₁ < s.heap.objs.size := Heap.lt_size he₁
    refine raiseNew_h hh ?_ (Heap.get?_push_size _ rfl) rfl (by simp) (Heap.get?_push_of_some _ (Heap.get?_push_of_some _ he₁)) hd₁ h2 ?_
    · show e₁ ≠ (s.heap.push _).objs.size
      rw [Heap.size_push]; exact Nat.ne_of_lt (Nat.lt_succ_of_lt he₁lt)
    · refine h _ _ _ (.ref e₁) (fun q => by (first | exact noBoth hh q | exact noBoth q hh | exact (noBoth hh q).elim | exact (noBoth q hh).elim | (rw [hh] at q; cases q))) ⟨fun b o hb => ?_, Heap.get?_none_of_le (by simp), _, .ref s.heap.objs.size, Heap.get?_update_self _ (Heap.get?_push_size _ rfl) rfl, rfl, by first | rfl | simp [Obj.mapFields]⟩
      have hb' : b < s.heap.objs.size := Heap.lt_size hb
      rw [Heap.get?_update_other _ _ ?_]
      · exact Heap.get?_push_of_some _ (Heap.get?_push_of_some _ hb)
      · show (s.heap.push _).objs.size ≠ b
        rw [Heap.size_push]; exact Nat.ne_of_gt (Nat.lt_succ_of_lt hb')
/-- an item beyond the list's end -/
theorem item_out {l : Addr} {items : Array Value} {k : Int} {t : Tok} {Q : Value → Shared → Prop} (hH : HOk A s.heap) (hl : s.heap.IsList l items) (hout : (items.size : Int) ≤ k) (hhi : k < 2 ^ 63)
    (hE : ∀ h' tk e cx, (A.handled = none → cx = .none) → NewX "IndexError" cx s.heap h' e → E (.ref e) { s with heap := h', toks := tk }) : wpAny (model prog w) A (getItem (.ref l) (.int k t)) Q E s := by
  obtain ⟨o, ho, hc, ne, hd⟩ := id hl
  unfold getItem
  try with_reducible refine wpAny_holding ?_
  first | refine wpAny_bind (wpAny_pure ?_) | skip
  refine wpAny_bind (wpAny_sequenceKey hl.typeIs (by decide) ?_)
  refine wpAny_bind (wpAny_callSpecial?_slot (name := Str.ofString "__getitem__") hl.typeIs slot_list_getitem
    (wpAny_call_entry slot_list_getitem hl.typeIs entry_list_getitem ?_ (args_list_getitem _ _)))
  show wpAny _ _ (Builtin.List.listSubscript? (.int k t) >>= _) _ _ s
  refine wpAny_bind (wpAny_listSubscript_int (fitsIndex_both (by have : (0 : Int) ≤ items.size := Int.natCast_nonneg _; omega) hhi) ?_)
  cases k with
  | ofNat j =>
    have hx : items[j]? = none := Array.getElem?_eq_none (by have : (items.size : Int) ≤ (j : Int) := hout; omega)
    show wpAny _ _ ((seqItemAt l j >>= fun r => pure (r.map (j, ·))) >>= _) _ _ s
    refine wpAny_bind (wpAny_bind (wpAny_seqItemAt ho hd (wpAny_pure ?_)))
    rw [hx]
    have hH' : HOk A.in1 s.heap := hH
    first
      | exact wpAny_bind (wpAny_rule (raise_words hH' hE))
      | exact wpAny_bind (wpAny_rule (wpAny_bind (raise_words hH' hE)))
      | exact wpAny_bind (wpAny_bind (wpAny_rule (raise_words hH' hE)))
      | exact wpAny_rule (raise_words hH' hE)
  | negSucc j => exact absurd hout (by have := Int.negSucc_lt_zero j; omega)
end
inductive TrEx (h : Heap) (cls cx : Value) (e T : Addr) : Prop
  | mk (oe : Obj) (vs : Array Value) (he : h.get? e = some oe) (hc : oe.cls = cls) (hd : oe.data = .fields vs) (h6 : vs.size = 6) (h1 : vs[1]? = some (.ref T)) (h2 : vs[2]? = some cx) : TrEx h cls cx e T
inductive TrTb (h : Heap) (T : Addr) (fl : Value) : Prop
  | mk (oT : Obj) (ts : Array Value) (hT : h.get? T = some oT) (hd : oT.data = .fields ts) (h3 : ts[3]? = some fl) : TrTb h T fl
/-- the exception e with its traceback T, in flight in the frame fl -/
structure Tr (h : Heap) (cls cx : Value) (e T : Addr) (fl : Value) : Prop where
  ex : TrEx h cls cx e T
  ne : T ≠ e
  tb : TrTb h T fl
def KX (X : List Addr) (h h' : Heap) : Prop := ∀ b o, b ∉ X → h.get? b = some o → h'.get? b = some o
def framesOf (l : List Env) : List Addr := l.filterMap (·.frame)
/-- the frames of the stack -/
def FrsOk (l : List Env) (h : Heap) : Prop := ∀ v ∈ l, v.scope.kind ≠ .module ∧ ∃ f m, v.frame = some f ∧ h.Ns f m
def NsK (Fs : List Addr) (h h' : Heap) : Prop := ∀ f ∈ Fs, ∀ m, h.Ns f m → h'.Ns f m
section
variable {prog : Program} {w : World} {A : Around} {E : Value → Shared → Prop} {s : Shared} {M : Model}
theorem FrsOk.fun {l : List Env} {h : Heap} (x : FrsOk l h) : h.FunFrames hp0 l := by
  induction l with
  | nil => trivial
  | cons v l ih =>
    obtain ⟨a, f, m, b, o, es, ep, ho, hd, _⟩ := x v (.head _)
    exact ⟨a, ⟨f, o, b, hp0_get _, ho, fun vs q => by (first | exact noBoth hd q | exact noBoth q hd | exact (noBoth hd q).elim | exact (noBoth q hd).elim | (rw [hd] at q; cases q))⟩, ih fun u hu => x u (.tail _ hu)⟩
theorem note_new {env : Env} {outer : List Env} {L e : Addr} {oe : Obj} {vs : Array Value} {cx : Value} {Q : Unit → Shared → Prop} (hfr : A.frames = some (env :: outer)) (hf : env.frame = some L) (hF : FrsOk (env :: outer) s.heap)
    (he : s.heap.get? e = some oe) (hd : oe.data = .fields vs) (h6 : vs.size = 6) (h1 : vs[1]? = some .none) (h2 : vs[2]? = some cx)
    (k : ∀ h' T, KX (e :: framesOf (env :: outer)) s.heap h' → NsK (framesOf (env :: outer)) s.heap h' → s.heap.get? T = none → Tr h' oe.cls cx e T (rawInt L) → Q () { s with heap := h' }) : wpAny M A (noteFrame (.ref e) env) Q E s := by
  have hene : e ∉ framesOf (env :: outer) := fun hm => by
    obtain ⟨v, hv, e1⟩ := List.mem_filterMap.mp hm
    obtain ⟨_, f, m, b, o, es, ep, ho, hd', _⟩ := hF v hv
    rw [b] at e1
    cases e1
    (first | exact noBoth he ho | exact noBoth ho he | exact (noBoth he ho).elim | exact (noBoth ho he).elim | (rw [he] at ho; cases ho))
    (first | exact noBoth hd hd' | exact noBoth hd' hd | exact (noBoth hd hd').elim | exact (noBoth hd' hd).elim | (rw [hd] at hd'; cases hd'))
  have hsz : 1 < vs.size := by omega
  unfold noteFrame
  simp only [hf]
  refine wpAny_bind (wpAny_field he hd h1 ?_)
  rw [if_neg (show ¬ ((Value.none != Value.none) = true) from by simp)]
  first
    | refine wpAny_bind (wpAny_frameOf_fun hfr hF.fun hf fun h₁ hs₁ => ?_)
    | refine wpAny_bind (wpAny_pure (wpAny_bind (wpAny_frameOf_fun hfr hF.fun hf fun h₁ hs₁ => ?_)))
  refine wpAny_bind (wpAny_entryPlaceOf fun pl hpl => ?_)
  unfold EntryCells.newEntry newFields
  refine wpAny_bind (wpAny_newObj_type ?_ (hpl.sizeOk5 _ _ _ _ _))
  have he₁ : h₁.get? e = some oe := (hs₁.2.1 e hene).trans he
  have he₂ := Heap.get?_push_of_some (h := h₁) { cls := .type "traceback", dict := none, data := .fields ([Value.none, .ref L, .none, rawInt L, .none] ++ (if pl.isEmpty then List.replicate 6 Value.none else pl)).toArray } he₁
  refine wpAny_setField he₂ hd hsz (k _ h₁.objs.size ?_ ?_ ?_ ?_)
  · intro b o hb e0
    have hb1 : b ≠ e := fun q => hb (q ▸ .head _)
    have hb2 : b ∉ framesOf (env :: outer) := fun q => hb (.tail _ q)
    rw [Heap.get?_update_other _ _ (Ne.symm hb1)]
    exact Heap.get?_push_of_some _ ((hs₁.2.1 b hb2).trans e0)
  · rintro f hf' m ⟨o, es, ep, ho, hd', r⟩
    obtain ⟨sl, ho₁⟩ := hs₁.2.2 f o ho
    have hfe : f ≠ e := fun q => hene (q ▸ hf')
    refine ⟨{ o with slots := sl }, es, ep, ?_, hd', r⟩
    rw [Heap.get?_update_other _ _ (Ne.symm hfe)]
    exact Heap.get?_push_of_some _ ho₁
  · exact Heap.get?_none_of_le (Nat.le_of_eq hs₁.1.symm)
  · have hTe : h₁.objs.size ≠ e := Nat.ne_of_gt (Heap.lt_size he₁)
    have hd₃ := Obj.data_mapFields hd (·.setIfInBounds 1 (Value.ref h₁.objs.size))
    refine ⟨⟨_, _, Heap.get?_update_self _ he₂ (Obj.isFreed_of_fields hd₃), Obj.cls_mapFields _ _, hd₃, by simp [h6], by simp [hsz], by rw [Array.getElem?_setIfInBounds_ne (by decide)]; exact h2⟩, hTe, _, _, (Heap.get?_update_other _ _ (Ne.symm hTe)).trans (Heap.get?_push_size _ rfl), rfl, ?_⟩
    · first | (simp; done) | (rcases hpl with rfl | ⟨_, _, _, _, _, _, _, rfl⟩ <;> simp)
theorem note_again {env : Env} {L e T : Addr} {cls cx : Value} {Q : Unit → Shared → Prop} (hf : env.frame = some L) (x : Tr s.heap cls cx e T (rawInt L)) (k : Q () s) : wpAny M A (noteFrame (.ref e) env) Q E s := by
  obtain ⟨⟨oe, vs, he, _, hd, _, h1, _⟩, _, oT, ts, hT, hdT, h3⟩ := x
  unfold noteFrame
  simp only [hf]
  refine wpAny_bind (wpAny_field he hd h1 ?_)
  rw [if_pos (show (Value.ref T != Value.none) = true from by simp)]
  refine wpAny_bind (wpAny_field hT hdT h3 ?_)
  rw [if_pos (show (rawInt L == rawInt L) = true from by simp)]
  exact wpAny_pure k
theorem set_flight {e T : Addr} {cls cx fl : Value} {fr : Option Addr} {Q : Unit → Shared → Prop} (x : Tr s.heap cls cx e T fl) (k : ∀ h', KX [T] s.heap h' → Tr h' cls cx e T (fr.elim .none fun f => rawInt f) → (∃ o ts, s.heap.get? T = some o ∧ o.data = .fields ts) → Q () { s with heap := h' }) : wpAny M A (setFlight (.ref e) fr) Q E s := by
  obtain ⟨⟨oe, vs, he, hc, hd, h6, h1, h2⟩, hne, oT, ts, hT, hdT, h3⟩ := x
  have hsz3 : 3 < ts.size := (Array.getElem?_eq_some_iff.mp h3).1
  unfold setFlight
  refine wpAny_bind (wpAny_field he hd h1 ?_)
  rw [if_pos (show (Value.ref T != Value.none) = true from by simp)]
  refine wpAny_setField hT hdT hsz3 (k _ (fun b o hb e0 => ?_) ⟨⟨oe, vs, ?_, hc, hd, h6, h1, h2⟩, hne, _, _, Heap.get?_update_self _ hT (Obj.isFreed_of_fields (Obj.data_mapFields hdT _)), Obj.data_mapFields hdT _, by simp [hsz3]⟩ ⟨oT, ts, hT, hdT⟩)
  · rw [Heap.get?_update_other _ _ (fun q => hb (by rw [q]; exact .head _))]; exact e0
  · rw [Heap.get?_update_other _ _ hne]; exact he
theorem came_back {env : Env} {L e T : Addr} {cls cx fl : Value} (hf : env.frame = some L) (x : Tr s.heap cls cx e T fl) (k : ∀ h', KX [T] s.heap h' → Tr h' cls cx e T (rawInt L) → E (.ref e) { s with heap := h' }) : cameBackBy M A env E (.ref e) s := by
  have x' := x
  obtain ⟨⟨oe, vs, he, hc, hd, h6, h1, h2⟩, hne, oT, ts, hT, hdT, h3⟩ := x'
  unfold cameBackBy
  refine wpAny_bind (wpAny_field he hd h1 ?_)
  rw [if_neg (show ¬ ((Value.ref T == Value.none) = true) from by simp)]
  rw [hf]
  first
    | exact wpAny_bind (wpAny_pure (set_flight x fun h' k1 k2 _ => k h' k1 k2))
    | exact set_flight x fun h' k1 k2 _ => k h' k1 k2
theorem pass_on {α : Type} {env : Env} {L e T : Addr} {cls cx fl : Value} {what : String} {Q : α → Shared → Prop} (hf : env.frame = some L) (x : Tr s.heap cls cx e T fl) (k : ∀ h', KX [T] s.heap h' → Tr h' cls cx e T (rawInt L) → E (.ref e) { s with heap := h' }) : wpAny M A (PySem.passOn what (.ref e) env : Sem α) Q E s := by
  have x' := x
  obtain ⟨⟨oe, vs, he, hc, hd, h6, h1, h2⟩, hne, oT, ts, hT, hdT, h3⟩ := x'
  unfold PySem.passOn
  refine wpAny_bind (wpAny_field he hd h1 ?_)
  rw [if_neg (show ¬ ((Value.ref T == Value.none) = true) from by simp)]
  rw [hf]
  first
    | exact wpAny_bind (wpAny_pure (wpAny_bind (set_flight x fun h' k1 k2 _ => wpAny_throw (k h' k1 k2))))
    | exact wpAny_bind (set_flight x fun h' k1 k2 _ => wpAny_throw (k h' k1 k2))
end
end Mine
end

section
open PySem PySem.W PyProof.Rows PySem.Calls PySem.MeetsSeq PySem.MeetsSeq2 PySem.MeetsSeq3 PySem.SeqAt PySem.AutoSeq1
set_option Elab.async false
set_option maxRecDepth 100000
set_option linter.all false
set_option maxHeartbeats 1000000
namespace Mine
def CmpAt (A : Around) (s : Shared) (op : CmpOp) (x y : Value) (b : Bool) : Prop :=
  ∀ (prog : Program) (w : World) (E : Value → Shared → Prop) (Q : Value → Shared → Prop), Q (.bool b) s → wpAny (model prog w) A (richCompare op x y) Q E s

inductive LexLt (A : Around) (s : Shared) : List Value → List Value → Bool → Prop
  | nilL (ys : List Value) : LexLt A s [] ys (!ys.isEmpty)
  | nilR (x : Value) (xs : List Value) : LexLt A s (x :: xs) [] false
  | eq {x y : Value} {xs ys : List Value} {b : Bool} : EqAt A.in1 s x y true → LexLt A s xs ys b → LexLt A s (x :: xs) (y :: ys) b
  | ne {x y : Value} {xs ys : List Value} {b : Bool} : EqAt A.in1 s x y false → CmpAt A.in1 s .Lt x y b → LexLt A s (x :: xs) (y :: ys) b
theorem lex_loopLt {A : Around} {s : Shared} {l r : Addr} {items items2 : Array Value} {n n2 : Nat} {dd dd2 : Option Addr} {sl sl2 : Array (Option Value)} {prog : Program} {w : World} {R : Result → Shared → Prop}
    (hl : s.heap.get? l = some { cls := .type "list", dict := dd, data := .seq items n, slots := sl }) (hb : s.heap.get? r = some { cls := .type "list", dict := dd2, data := .seq items2 n2, slots := sl2 }) {xs ys : List Value} {b : Bool} (h : LexLt A s xs ys b) :
    ∀ i : Nat, i ≤ items.size → i ≤ items2.size → items.toList.drop i = xs → items2.toList.drop i = ys → R (.ok (.ret (.bool b))) s →
    wpAny (model prog w) A.in1 (Builtin.«list.__eq__.loop» ⟨[.ref l, .ref r, rawInt i, rawInt 0], []⟩) (fun fin s' => match fin with | .done f => R (.ok f) s' | .again c' => c'.quiet = true ∧ codeAny (model prog w) A c' R s') (fun e s' => R (.error e) s') s := by
  obtain ⟨hp, g, d, tk, os⟩ := s
  induction h with
  | nilL ys =>
    intro i h1 h2 e1 e2 hR
    have hi1 : items[((i : Nat) : Int).toNat]? = none := by
      have : items.toList.length ≤ i := List.drop_eq_nil_iff.mp e1
      simp at this ⊢; omega
    have hs1 : items.size = i := by
      have : items.toList.length ≤ i := List.drop_eq_nil_iff.mp e1
      simp at this; omega
    have hs2 : items2.size = i + ys.length := by
      have : (items2.toList.drop i).length = ys.length := by rw [e2]
      simp at this; omega
    wp_walk using wpAny_loadPart' hl, wpAny_loadPart' hb
    rw [hi1]
    wp_walk using wpAny_loadPart' hl, wpAny_loadPart' hb
    show R (.ok (.ret (.bool (decide (items.size < items2.size))))) _
    have : decide (items.size < items2.size) = (!ys.isEmpty) := by rw [hs1, hs2]; cases ys <;> simp
    rw [this]; exact hR
  | nilR x xs =>
    intro i h1 h2 e1 e2 hR
    have hi2 : items2[((i : Nat) : Int).toNat]? = none := by
      have : items2.toList.length ≤ i := List.drop_eq_nil_iff.mp e2
      simp at this ⊢; omega
    have hs2 : items2.size = i := by
      have : items2.toList.length ≤ i := List.drop_eq_nil_iff.mp e2
      simp at this; omega
    have hs1 : items.size = i + (xs.length + 1) := by
      have : (items.toList.drop i).length = (x :: xs).length := by rw [e1]
      simp at this; omega
    have hi1 : items[((i : Nat) : Int).toNat]? = some x := by
      have : (items.toList.drop i)[0]? = some x := by rw [e1]; rfl
      rw [List.getElem?_drop] at this
      simpa using this
    wp_walk using wpAny_loadPart' hl, wpAny_loadPart' hb
    rw [hi1, hi2]
    wp_walk using wpAny_loadPart' hl, wpAny_loadPart' hb
    show R (.ok (.ret (.bool (decide (items.size < items2.size))))) _
    have : decide (items.size < items2.size) = false := by rw [hs1, hs2]; simp; try omega
    rw [this]; exact hR
  | @eq x y xs ys b he _ ih =>
    intro i h1 h2 e1 e2 hR
    have hi1 : items[((i : Nat) : Int).toNat]? = some x := by
      have : (items.toList.drop i)[0]? = some x := by rw [e1]; rfl
      rw [List.getElem?_drop] at this
      simpa using this
    have hi2 : items2[((i : Nat) : Int).toNat]? = some y := by
      have : (items2.toList.drop i)[0]? = some y := by rw [e2]; rfl
      rw [List.getElem?_drop] at this
      simpa using this
    have hc : ((i : Int) + 1) = ((i + 1 : Nat) : Int) := by push_cast; rfl
    have d1 : items.toList.drop (i + 1) = xs := by rw [← List.drop_drop, e1]; rfl
    have d2 : items2.toList.drop (i + 1) = ys := by rw [← List.drop_drop, e2]; rfl
    have l1 : i + 1 ≤ items.size := by
      have : (items.toList.drop i).length = (x :: xs).length := by rw [e1]
      simp at this; omega
    have l2 : i + 1 ≤ items2.size := by
      have : (items2.toList.drop i).length = (y :: ys).length := by rw [e2]
      simp at this; omega
    wp_walk using wpAny_loadPart' hl, wpAny_loadPart' hb
    rw [hi1, hi2]
    refine wpAny_bind (he prog w _ _ ?_)
    wp_walk
    rw [hc]
    exact ⟨plainId_quiet plain_eq_loop _, codeAny_builtin entry_eq_loop (by
      rw [Around.under_plainId plain_eq_loop _]
      exact ih (i + 1) l1 l2 d1 d2 hR)⟩
  | @ne x y xs ys b he hc =>
    intro i h1 h2 e1 e2 hR
    have hi1 : items[((i : Nat) : Int).toNat]? = some x := by
      have : (items.toList.drop i)[0]? = some x := by rw [e1]; rfl
      rw [List.getElem?_drop] at this
      simpa using this
    have hi2 : items2[((i : Nat) : Int).toNat]? = some y := by
      have : (items2.toList.drop i)[0]? = some y := by rw [e2]; rfl
      rw [List.getElem?_drop] at this
      simpa using this
    wp_walk using wpAny_loadPart' hl, wpAny_loadPart' hb
    rw [hi1, hi2]
    refine wpAny_bind (he prog w _ _ ?_)
    wp_walk using wpAny_loadPart' hl, wpAny_loadPart' hb
    rw [hi1, hi2]
    refine wpAny_bind (hc prog w _ _ ?_)
    wp_walk
    exact hR
theorem lexMeetsLt {A : Around} {s : Shared} {l r : Addr} {items items2 : Array Value} {n n2 : Nat} {dd dd2 : Option Addr} {sl sl2 : Array (Option Value)} {xs ys : List Value} {b : Bool}
    (ho : s.heap.get? l = some { cls := .type "list", dict := dd, data := .seq items n, slots := sl }) (ho2 : s.heap.get? r = some { cls := .type "list", dict := dd2, data := .seq items2 n2, slots := sl2 }) (hx : items.toList = xs) (hy : items2.toList = ys) (h : LexLt A s xs ys b) :
    Meets (Builtin.«list.__lt__» ⟨[.ref l, .ref r], []⟩) (fun A' R s' => A' = A ∧ s' = s ∧ R (.ok (.ret (.bool b))) s) := by
  rintro prog w A' R s' ⟨rfl, rfl, hR⟩
  obtain ⟨hp, g, d, tk, os⟩ := s'
  have f3 := AutoSeq1.sub_list_list
  wp_walk using wpAny_loadPart' ho, wpAny_loadPart' ho2
  exact ⟨plainId_quiet plain_eq_loop _, codeAny_builtin entry_eq_loop (by
    rw [Around.under_plainId plain_eq_loop _]
    exact lex_loopLt ho ho2 h 0 (Nat.zero_le _) (Nat.zero_le _) (by simpa using hx) (by simpa using hy) hR)⟩
theorem CmpAt.listsLt {A : Around} {s : Shared} {l r : Addr} {xs ys : List Value} {b : Bool} (hl : s.heap.IsList l (List.toArray xs)) (hb : s.heap.IsList r (List.toArray ys)) (hu : A.units < cLine) (h : LexLt A s xs ys b) : CmpAt A s .Lt (.ref l) (.ref r) b := fun prog w E Q hq => by
  obtain ⟨⟨cls, dd, data, sl⟩, ho, hc, n, hd⟩ := id hl
  obtain ⟨⟨cls2, dd2, data2, sl2⟩, ho2, hc2, n2, hd2⟩ := id hb
  simp only at hc hd hc2 hd2
  subst hc hd hc2 hd2
  exact richCompare_meets_room (op := .Lt) ⟨_, ho, rfl⟩ ⟨_, ho2, rfl⟩ F.slot_list_lt F.entry_list_lt (F.args_list_lt_2 _ _) (lexMeetsLt ho ho2 rfl rfl h)
    ⟨rfl, rfl, show Value.bool b ≠ Value.notImplemented ∧ Q (.bool b) s from ⟨(fun x => nomatch x), hq⟩⟩ hu
theorem callLt {A : Around} {s : Shared} {l r : Addr} {xs ys : List Value} {b : Bool} (hl : s.heap.IsList l (List.toArray xs)) (hb : s.heap.IsList r (List.toArray ys)) (h : LexLt A s xs ys b) {prog : Program} {w : World} {E Q : Value → Shared → Prop} (hq : Q (.bool b) s) : wpAny (model prog w) A (call (.builtin "list.__lt__") [.ref l, .ref r]) Q E s := by
  obtain ⟨⟨cls, dd, data, sl⟩, ho, hc, n, hd⟩ := id hl
  obtain ⟨⟨cls2, dd2, data2, sl2⟩, ho2, hc2, n2, hd2⟩ := id hb
  simp only at hc hd hc2 hd2
  subst hc hd hc2 hd2
  exact call_meets F.slot_list_lt ⟨_, ho, rfl⟩ F.entry_list_lt (F.args_list_lt_2 _ _) (lexMeetsLt ho ho2 rfl rfl h) ⟨rfl, rfl, hq⟩

inductive LexGt (A : Around) (s : Shared) : List Value → List Value → Bool → Prop
  | nilL (ys : List Value) : LexGt A s [] ys false
  | nilR (x : Value) (xs : List Value) : LexGt A s (x :: xs) [] true
  | eq {x y : Value} {xs ys : List Value} {b : Bool} : EqAt A.in1 s x y true → LexGt A s xs ys b → LexGt A s (x :: xs) (y :: ys) b
  | ne {x y : Value} {xs ys : List Value} {b : Bool} : EqAt A.in1 s x y false → CmpAt A.in1 s .Gt x y b → LexGt A s (x :: xs) (y :: ys) b
theorem lex_loopGt {A : Around} {s : Shared} {l r : Addr} {items items2 : Array Value} {n n2 : Nat} {dd dd2 : Option Addr} {sl sl2 : Array (Option Value)} {prog : Program} {w : World} {R : Result → Shared → Prop}
    (hl : s.heap.get? l = some { cls := .type "list", dict := dd, data := .seq items n, slots := sl }) (hb : s.heap.get? r = some { cls := .type "list", dict := dd2, data := .seq items2 n2, slots := sl2 }) {xs ys : List Value} {b : Bool} (h : LexGt A s xs ys b) :
    ∀ i : Nat, i ≤ items.size → i ≤ items2.size → items.toList.drop i = xs → items2.toList.drop i = ys → R (.ok (.ret (.bool b))) s →
    wpAny (model prog w) A.in1 (Builtin.«list.__eq__.loop» ⟨[.ref l, .ref r, rawInt i, rawInt 4], []⟩) (fun fin s' => match fin with | .done f => R (.ok f) s' | .again c' => c'.quiet = true ∧ codeAny (model prog w) A c' R s') (fun e s' => R (.error e) s') s := by
  obtain ⟨hp, g, d, tk, os⟩ := s
  induction h with
  | nilL ys =>
    intro i h1 h2 e1 e2 hR
    have hi1 : items[((i : Nat) : Int).toNat]? = none := by
      have : items.toList.length ≤ i := List.drop_eq_nil_iff.mp e1
      simp at this ⊢; omega
    have hs1 : items.size = i := by
      have : items.toList.length ≤ i := List.drop_eq_nil_iff.mp e1
      simp at this; omega
    have hs2 : items2.size = i + ys.length := by
      have : (items2.toList.drop i).length = ys.length := by rw [e2]
      simp at this; omega
    wp_walk using wpAny_loadPart' hl, wpAny_loadPart' hb
    rw [hi1]
    wp_walk using wpAny_loadPart' hl, wpAny_loadPart' hb
    show R (.ok (.ret (.bool (decide (items.size > items2.size))))) _
    have : decide (items.size > items2.size) = false := by rw [hs1, hs2]; cases ys <;> simp
    rw [this]; exact hR
  | nilR x xs =>
    intro i h1 h2 e1 e2 hR
    have hi2 : items2[((i : Nat) : Int).toNat]? = none := by
      have : items2.toList.length ≤ i := List.drop_eq_nil_iff.mp e2
      simp at this ⊢; omega
    have hs2 : items2.size = i := by
      have : items2.toList.length ≤ i := List.drop_eq_nil_iff.mp e2
      simp at this; omega
    have hs1 : items.size = i + (xs.length + 1) := by
      have : (items.toList.drop i).length = (x :: xs).length := by rw [e1]
      simp at this; omega
    have hi1 : items[((i : Nat) : Int).toNat]? = some x := by
      have : (items.toList.drop i)[0]? = some x := by rw [e1]; rfl
      rw [List.getElem?_drop] at this
      simpa using this
    wp_walk using wpAny_loadPart' hl, wpAny_loadPart' hb
    rw [hi1, hi2]
    wp_walk using wpAny_loadPart' hl, wpAny_loadPart' hb
    show R (.ok (.ret (.bool (decide (items.size > items2.size))))) _
    have : decide (items.size > items2.size) = true := by rw [hs1, hs2]; simp; try omega
    rw [this]; exact hR
  | @eq x y xs ys b he _ ih =>
    intro i h1 h2 e1 e2 hR
    have hi1 : items[((i : Nat) : Int).toNat]? = some x := by
      have : (items.toList.drop i)[0]? = some x := by rw [e1]; rfl
      rw [List.getElem?_drop] at this
      simpa using this
    have hi2 : items2[((i : Nat) : Int).toNat]? = some y := by
      have : (items2.toList.drop i)[0]? = some y := by rw [e2]; rfl
      rw [List.getElem?_drop] at this
      simpa using this
    have hc : ((i : Int) + 1) = ((i + 1 : Nat) : Int) := by push_cast; rfl
    have d1 : items.toList.drop (i + 1) = xs := by rw [← List.drop_drop, e1]; rfl
    have d2 : items2.toList.drop (i + 1) = ys := by rw [← List.drop_drop, e2]; rfl
    have l1 : i + 1 ≤ items.size := by
      have : (items.toList.drop i).length = (x :: xs).length := by rw [e1]
      simp at this; omega
    have l2 : i + 1 ≤ items2.size := by
      have : (items2.toList.drop i).length = (y :: ys).length := by rw [e2]
      simp at this; omega
    wp_walk using wpAny_loadPart' hl, wpAny_loadPart' hb
    rw [hi1, hi2]
    refine wpAny_bind (he prog w _ _ ?_)
    wp_walk
    rw [hc]
    exact ⟨plainId_quiet plain_eq_loop _, codeAny_builtin entry_eq_loop (by
      rw [Around.under_plainId plain_eq_loop _]
      exact ih (i + 1) l1 l2 d1 d2 hR)⟩
  | @ne x y xs ys b he hc =>
    intro i h1 h2 e1 e2 hR
    have hi1 : items[((i : Nat) : Int).toNat]? = some x := by
      have : (items.toList.drop i)[0]? = some x := by rw [e1]; rfl
      rw [List.getElem?_drop] at this
      simpa using this
    have hi2 : items2[((i : Nat) : Int).toNat]? = some y := by
      have : (items2.toList.drop i)[0]? = some y := by rw [e2]; rfl
      rw [List.getElem?_drop] at this
      simpa using this
    wp_walk using wpAny_loadPart' hl, wpAny_loadPart' hb
    rw [hi1, hi2]
    refine wpAny_bind (he prog w _ _ ?_)
    wp_walk using wpAny_loadPart' hl, wpAny_loadPart' hb
    rw [hi1, hi2]
    refine wpAny_bind (hc prog w _ _ ?_)
    wp_walk
    exact hR
theorem lexMeetsGt {A : Around} {s : Shared} {l r : Addr} {items items2 : Array Value} {n n2 : Nat} {dd dd2 : Option Addr} {sl sl2 : Array (Option Value)} {xs ys : List Value} {b : Bool}
    (ho : s.heap.get? l = some { cls := .type "list", dict := dd, data := .seq items n, slots := sl }) (ho2 : s.heap.get? r = some { cls := .type "list", dict := dd2, data := .seq items2 n2, slots := sl2 }) (hx : items.toList = xs) (hy : items2.toList = ys) (h : LexGt A s xs ys b) :
    Meets (Builtin.«list.__gt__» ⟨[.ref l, .ref r], []⟩) (fun A' R s' => A' = A ∧ s' = s ∧ R (.ok (.ret (.bool b))) s) := by
  rintro prog w A' R s' ⟨rfl, rfl, hR⟩
  obtain ⟨hp, g, d, tk, os⟩ := s'
  have f3 := AutoSeq1.sub_list_list
  wp_walk using wpAny_loadPart' ho, wpAny_loadPart' ho2
  exact ⟨plainId_quiet plain_eq_loop _, codeAny_builtin entry_eq_loop (by
    rw [Around.under_plainId plain_eq_loop _]
    exact lex_loopGt ho ho2 h 0 (Nat.zero_le _) (Nat.zero_le _) (by simpa using hx) (by simpa using hy) hR)⟩
theorem CmpAt.listsGt {A : Around} {s : Shared} {l r : Addr} {xs ys : List Value} {b : Bool} (hl : s.heap.IsList l (List.toArray xs)) (hb : s.heap.IsList r (List.toArray ys)) (hu : A.units < cLine) (h : LexGt A s xs ys b) : CmpAt A s .Gt (.ref l) (.ref r) b := fun prog w E Q hq => by
  obtain ⟨⟨cls, dd, data, sl⟩, ho, hc, n, hd⟩ := id hl
  obtain ⟨⟨cls2, dd2, data2, sl2⟩, ho2, hc2, n2, hd2⟩ := id hb
  simp only at hc hd hc2 hd2
  subst hc hd hc2 hd2
  exact richCompare_meets_room (op := .Gt) ⟨_, ho, rfl⟩ ⟨_, ho2, rfl⟩ F.slot_list_gt F.entry_list_gt (F.args_list_gt_2 _ _) (lexMeetsGt ho ho2 rfl rfl h)
    ⟨rfl, rfl, show Value.bool b ≠ Value.notImplemented ∧ Q (.bool b) s from ⟨(fun x => nomatch x), hq⟩⟩ hu
theorem callGt {A : Around} {s : Shared} {l r : Addr} {xs ys : List Value} {b : Bool} (hl : s.heap.IsList l (List.toArray xs)) (hb : s.heap.IsList r (List.toArray ys)) (h : LexGt A s xs ys b) {prog : Program} {w : World} {E Q : Value → Shared → Prop} (hq : Q (.bool b) s) : wpAny (model prog w) A (call (.builtin "list.__gt__") [.ref l, .ref r]) Q E s := by
  obtain ⟨⟨cls, dd, data, sl⟩, ho, hc, n, hd⟩ := id hl
  obtain ⟨⟨cls2, dd2, data2, sl2⟩, ho2, hc2, n2, hd2⟩ := id hb
  simp only at hc hd hc2 hd2
  subst hc hd hc2 hd2
  exact call_meets F.slot_list_gt ⟨_, ho, rfl⟩ F.entry_list_gt (F.args_list_gt_2 _ _) (lexMeetsGt ho ho2 rfl rfl h) ⟨rfl, rfl, hq⟩
end Mine
end

section
open PySem PySem.W PyProof.Rows PySem.Calls PySem.SeqAt
set_option Elab.async false
set_option maxRecDepth 100000
set_option linter.all false
set_option maxHeartbeats 1000000
namespace Mine
/-- a row of a listing: the name, the signs -/
abbrev Row := Str × Str
def rowOf (r : Row) : Dat := .list [.str r.1, .str r.2]
def slt (a b : Str) : Bool := decide (a.cps.toList < b.cps.toList)
def rlt (a b : Row) : Bool := if a.1 = b.1 then (if a.2 = b.2 then false else slt a.2 b.2) else slt a.1 b.1
section
variable {A : Around} {s : Shared} {G : Ldg}
theorem cmp_str_lt (a b : Str) (t u : Tok) : CmpAt A s .Lt (.str a t) (.str b u) (slt a b) := fun prog w E Q hq => PyProof.Rows.lt_str (A := A) hq
theorem cmp_str_gt (a b : Str) (t u : Tok) : CmpAt A s .Gt (.str a t) (.str b u) (slt b a) := fun prog w E Q hq => (by have h := @PySem.P.gt_str prog w A E s a b t u Q hq; exact h)
inductive RowA (s : Shared) (G : Ldg) (v : Value) (r : Row) : Prop
  | mk (a : Addr) (t u : Tok) (n : Nat) (e : v = .ref a) (hm : (a, W.listOf #[.str r.1 t, .str r.2 u] n) ∈ G) (hl : s.heap.IsList a (List.toArray [.str r.1 t, .str r.2 u])) : RowA s G v r
theorem row_at {v : Value} {r : Row} (l : Led G s.heap) (d : DatIn G v (rowOf r)) : RowA s G v r := by
  obtain ⟨a, vs, n, rfl, hm, _, hla, r'⟩ := isList_of l d
  obtain ⟨v1, v2, rfl, d1, d2⟩ := da2 r'
  obtain ⟨t, rfl⟩ := iStr d1
  obtain ⟨u, rfl⟩ := iStr d2
  exact ⟨a, t, u, n, rfl, hm, hla⟩
theorem row_lex {a b : Row} {t u t' u' : Tok} : LexLt A s [.str a.1 t, .str a.2 u] [.str b.1 t', .str b.2 u'] (rlt a b) := by
  unfold rlt
  have e1 := EqAt.str_str (A := A.in1) (s := s) a.1 t b.1 t'
  have e2 := EqAt.str_str (A := A.in1) (s := s) a.2 u b.2 u'
  by_cases h : a.1 = b.1
  · rw [if_pos h]
    rw [h] at e1
    rw [beq_self_eq_true] at e1
    rw [h]
    refine .eq e1 ?_
    by_cases h' : a.2 = b.2
    · rw [if_pos h']
      rw [h', beq_self_eq_true] at e2
      rw [h']
      exact .eq e2 (LexLt.nilL [])
    · rw [if_neg h']
      rw [show (a.2 == b.2) = false by simpa using h'] at e2
      exact .ne e2 (cmp_str_lt _ _ _ _)
  · rw [if_neg h]
    rw [show (a.1 == b.1) = false by simpa using h] at e1
    exact .ne e1 (cmp_str_lt _ _ _ _)
theorem row_lt {v v' : Value} {a b : Row} (hu : A.units < cLine) (l : Led G s.heap) (d : DatIn G v (rowOf a)) (d' : DatIn G v' (rowOf b)) : CmpAt A s .Lt v v' (rlt a b) := by
  obtain ⟨x, t, u, n, rfl, _, h1⟩ := row_at l d
  obtain ⟨y, t', u', n', rfl, _, h2⟩ := row_at l d'
  exact CmpAt.listsLt h1 h2 hu row_lex
theorem row_gt {v v' : Value} {a b : Row} (hu : A.units < cLine) (l : Led G s.heap) (d : DatIn G v (rowOf a)) (d' : DatIn G v' (rowOf b)) : CmpAt A s .Gt v v' (rlt b a) := by
  obtain ⟨x, t, u, n, rfl, _, h1⟩ := row_at l d
  obtain ⟨y, t', u', n', rfl, _, h2⟩ := row_at l d'
  refine CmpAt.listsGt h1 h2 hu ?_
  unfold rlt
  have e1 := EqAt.str_str (A := A.in1) (s := s) a.1 t b.1 t'
  have e2 := EqAt.str_str (A := A.in1) (s := s) a.2 u b.2 u'
  by_cases h : a.1 = b.1
  · rw [if_pos h.symm]
    rw [h] at e1
    rw [beq_self_eq_true] at e1
    rw [h]
    refine .eq e1 ?_
    by_cases h' : a.2 = b.2
    · rw [if_pos h'.symm]
      rw [h', beq_self_eq_true] at e2
      rw [h']
      exact .eq e2 (LexGt.nilL [])
    · rw [if_neg (Ne.symm h')]
      rw [show (a.2 == b.2) = false by simpa using h'] at e2
      exact .ne e2 (cmp_str_gt _ _ _ _)
  · rw [if_neg (Ne.symm h)]
    rw [show (a.1 == b.1) = false by simpa using h] at e1
    exact .ne e1 (cmp_str_gt _ _ _ _)
theorem row_eq {v v' : Value} {a b : Row} (hu : A.units < cLine) (l : Led G s.heap) (d : DatIn G v (rowOf a)) (d' : DatIn G v' (rowOf b)) : EqAt A s v v' (decide (a = b)) := by
  obtain ⟨x, t, u, n, rfl, m1, h1⟩ := row_at l d
  obtain ⟨y, t', u', n', rfl, m2, h2⟩ := row_at l d'
  by_cases hxy : x = y
  · subst hxy
    have e := l _ m1
    rw [l _ m2] at e
    have e' : W.listOf #[Value.str b.1 t', Value.str b.2 u'] n' = W.listOf #[Value.str a.1 t, Value.str a.2 u] n := Option.some.inj e
    have : a = b := by
      have e2 := congrArg Obj.data e'
      injection e2 with e3 _
      have e4 := congrArg Array.toList e3
      simp at e4
      exact Prod.ext e4.1.1.symm e4.2.1.symm
    rw [decide_eq_true this]
    exact EqAt.same _
  · refine EqAt.of_refs hxy ?_
    have := RcAt.lists (A := A) (s := s) (e := fun j => if j = 0 then a.1 == b.1 else a.2 == b.2) h1 h2 rfl hu (fun j g1 g2 => ?_)
    · have e : (List.range (List.toArray [Value.str a.1 t, Value.str a.2 u]).size).all (fun j => if j = 0 then a.1 == b.1 else a.2 == b.2) = decide (a = b) := by
        show ([0, 1] : List Nat).all _ = _
        simp only [List.all_cons, List.all_nil, Bool.and_true, if_true]
        by_cases g1 : a.1 = b.1 <;> by_cases g2 : a.2 = b.2 <;> simp [Prod.ext_iff, g1, g2]
      rw [e] at this
      exact this
    · have : j = 0 ∨ j = 1 := by simp at g1; omega
      rcases this with rfl | rfl
      · exact EqAt.str_str _ _ _ _
      · exact EqAt.str_str _ _ _ _
theorem one_lt {v v' : Value} {a b : Row} (hu : A.units < cLine) (l : Led G s.heap) (d : DatIn G v (rowOf a)) (d' : DatIn G v' (rowOf b)) {prog : Program} {w : World} {E : Value → Shared → Prop} {Q : Bool → Shared → Prop} (hq : Q (rlt a b) s) :
    wpAny (model prog w) A (keyLt' oneType' v v') Q E s := by
  obtain ⟨x, t, u, n, rfl, m1, h1⟩ := row_at l d
  obtain ⟨y, t', u', n', rfl, m2, h2⟩ := row_at l d'
  rw [keyLt'_oneType, oneLt'_eq]
  simp only [if_true]
  refine wpAny_bind (wpAny_cRoomFor hu ?_)
  refine wpAny_bind (wpAny_callSpecialIfBound?_slot h1.typeIs F.slot_list_lt ?_)
  exact callLt h1 h2 row_lex (wpAny_truthy_bool hq)
end
/-- the sort's questions answered by f -/
def evalAsk {α : Type} : KasT α → (Nat → Nat → Option Bool) → Option α
  | .ret a, _ => some a
  | .ask i j k, f => match f i j with
    | some b => evalAsk (k b) f
    | none => none
theorem kas_eval {α : Type} {cmp : Nat → Nat → (Bool → Shared → Prop) → Shared → Prop} {f : Nat → Nat → Option Bool} {s : Shared} (ha : ∀ i j b, f i j = some b → ∀ C : Bool → Shared → Prop, C b s → cmp i j C s) {Q : α → Shared → Prop} {p : α} (hq : Q p s) : ∀ t : KasT α, evalAsk t f = some p → t.kasWp cmp Q s
  | .ret a, h => by
    have : a = p := Option.some.inj h
    exact this ▸ hq
  | .ask i j k, h => by
    cases e : f i j with
    | none => (first | exact noAt evalAsk h e | exact noIs evalAsk h e | exact (noAt evalAsk h e).elim | exact (noIs evalAsk h e).elim | (rw [evalAsk, e] at h; cases h))
    | some b =>
      rw [evalAsk, e] at h
      exact ha i j b e _ (kas_eval ha hq (k b) h)
/-- sorted of rows, the questions' answers known -/
theorem sorted_rows {prog : Program} {w : World} {A : Around} {E : Value → Shared → Prop} {s : Shared} {L : Addr} {G : Ldg} {m : Str → Option Value} {v : Value} {Q : Value → Shared → Prop} {rs : List Row} {p : Array Nat} {f : Nat → Nat → Option Bool}
    (hf : ∀ i j b, f i j = some b → ∃ ri rj, rs[i]? = some ri ∧ rs[j]? = some rj ∧ rlt ri rj = b) (h2 : 2 ≤ rs.length) (h64 : rs.length < 64) (he : evalAsk (kas_sort rs.length) f = some p) (hp : ∀ i ∈ p.toList, i < rs.length) (hu : A.units + 10 < cLine)
    (l : Led G s.heap) (n : s.heap.Ns L m) (off : ∀ q ∈ G, q.1 ≠ L) (d : DatIn G v (.list (rs.map rowOf)))
    (k : ∀ v' h' G', Ext L G s.heap G' h' → DatIn G' v' (.list (p.toList.map fun i => rowOf (rs.getD i (Str.ofString "", Str.ofString "")))) → Q v' { s with heap := h' }) : wpAny (model prog w) A (call (.builtin "sorted") [v]) Q E s := by
  obtain ⟨a, vs, na, rfl, hm, _, hla, r⟩ := isList_of l d
  have hlen : vs.length = rs.length := by rw [r.length, List.length_map]
  have rowAt : ∀ i ri, rs[i]? = some ri → ∃ x, vs[i]? = some x ∧ DatIn G x (rowOf ri) := fun i ri e => DatAll.get' r (by rw [List.getElem?_map, e]; rfl)
  refine kas_sorted (T := .type "list") (useF n) useN hla (by rw [hlen]; exact h2) (by rw [hlen]; exact h64) (fun h' F' N' x hx => ?_) (by decide +kernel) (fun D e1 h' F' N' hD => ?_)
  · obtain ⟨i, hi, rfl⟩ := List.getElem_of_mem hx
    obtain ⟨y, hy, dy⟩ := rowAt i (rs[i]'(by rw [← hlen]; exact hi)) (by simp)
    have : y = vs[i] := by rw [List.getElem?_eq_getElem hi] at hy; exact (Option.some.inj hy).symm
    rw [this] at dy
    have l' : Led G h' := fun q hq => (N' q (mem_objsBut.mpr ⟨l q hq, off q hq⟩)).1
    intro A' Q' E' s' k' q'
    have l'' : Led G s'.heap := fun q hq => k' _ _ (l' q hq)
    obtain ⟨x', t', u', n', e', _, hla'⟩ := row_at l'' dy
    rw [e']
    exact wpAny_typeOf hla'.typeIs q'
  · have l' : Led G h' := fun q hq => (N' q (.tail _ (mem_objsBut.mpr ⟨l q hq, off q hq⟩))).1
    rw [hlen]
    refine kas_eval (f := f) (p := p) (fun i j b e C hC => ?_) ?_ _ he
    · obtain ⟨ri, rj, ei, ej, eb⟩ := hf i j b e
      obtain ⟨x, hx, dx⟩ := rowAt i ri ei
      obtain ⟨y, hy, dy⟩ := rowAt j rj ej
      have hx' : vs.getD i Value.none = x := by rw [List.getD_eq_getElem?_getD, hx]; rfl
      have hy' : vs.getD j Value.none = y := by rw [List.getD_eq_getElem?_getD, hy]; rfl
      unfold kas_ask
      rw [hx', hy']
      exact one_lt (A := A.in1.in1) (s := { s with heap := h' }) (by show A.units + 1 + 1 < cLine; omega) l' dx dy (by rw [eb]; exact hC)
    · refine KasFin.intro F' N' (.head fun q hq => Nat.ne_of_lt (hD q hq)) fun h'' c F'' N'' => ?_
      have hnew : s.heap.get? D = none := by
        cases e : s.heap.get? D with
        | none => rfl
        | some o =>
          have hDL : D ≠ L := (N' _ (.head _)).2.1
          exact absurd (hD (D, o) (mem_objsBut.mpr ⟨e, hDL⟩)) (Nat.lt_irrefl _)
      have x := backFN (tl := [(D, W.listOf (List.toArray (p.toList.map fun i => vs.getD i Value.none)) c)]) l n off F'' N'' (fun q hq => by rw [List.mem_singleton] at hq; subst hq; exact hnew)
      refine k _ h'' _ x (.list (.head _) (DatAll.mono (fun q hq => .tail _ hq) ?_))
      have : ∀ is : List Nat, (∀ i ∈ is, i < rs.length) → DatAll G (is.map fun i => vs.getD i Value.none) (is.map fun i => rowOf (rs.getD i (Str.ofString "", Str.ofString ""))) := by
        intro is
        induction is with
        | nil => intro _; exact .nil
        | cons i is ih =>
          intro hi
          obtain ⟨x, hx, dx⟩ := rowAt i _ (List.getElem?_eq_getElem (hi i (.head _)))
          refine .cons ?_ (ih fun j hj => hi j (.tail _ hj))
          show DatIn G (vs.getD i Value.none) (rowOf (rs.getD i (Str.ofString "", Str.ofString "")))
          rw [List.getD_eq_getElem?_getD, hx, List.getD_eq_getElem?_getD, List.getElem?_eq_getElem (hi i (.head _))]
          exact dx
      exact this _ hp
end Mine
end

section
open PySem PySem.W PyProof.Rows PySem.Calls
set_option Elab.async false
set_option maxRecDepth 100000
set_option linter.all false
set_option maxHeartbeats 1000000
namespace Mine
/-- what stands during a run of sorted_list_difference: the base, its frame, the caller's frame, its two lists -/
structure SC where
  h₀ : Heap
  F : Addr
  L : Addr
  M : Addr
  U : Addr
  G₀ : Ldg
  mL : Str → Option Value
inductive SNm (c : SC) (h : Heap) : Prop
  | mk (m : Str → Option Value) (n : h.Ns c.F m) (a : m (Str.ofString "missing") = some (.ref c.M)) (b : m (Str.ofString "unexpected") = some (.ref c.U)) : SNm c h
inductive LstAt (M : Addr) (ms : List Dat) (G : Ldg) (h : Heap) : Prop
  | mk (vs : List Value) (n : Nat) (e : h.get? M = some (W.listOf (List.toArray vs) n)) (d : DatAll G vs ms) : LstAt M ms G h
structure SP (c : SC) (lv : List (Str × Dat)) (ms us : List Dat) (G : Ldg) (h : Heap) : Prop where
  fp : FP c.h₀ c.F c.G₀ [] lv [] G h
  nm : SNm c h
  mm : LstAt c.M ms G h
  uu : LstAt c.U us G h
  off : ∀ p ∈ G, p.1 ≠ c.M ∧ p.1 ≠ c.U ∧ p.1 ≠ c.L
  law : h.Ns c.L c.mL
  ds : c.M ≠ c.U ∧ c.M ≠ c.F ∧ c.U ≠ c.F ∧ c.L ≠ c.F
  no : c.h₀.get? c.M = none ∧ c.h₀.get? c.U = none ∧ c.h₀.get? c.L = none
section
variable {c : SC} {lv : List (Str × Dat)} {ms us : List Dat} {G G' : Ldg} {h h' : Heap}
theorem SP.MneL (y : SP c lv ms us G h) : c.M ≠ c.L := fun q => by
  obtain ⟨vs, n, e, _⟩ := y.mm
  obtain ⟨o, es, ep, e', d, _⟩ := y.law
  rw [q, e'] at e; cases e; cases d
theorem SP.UneL (y : SP c lv ms us G h) : c.U ≠ c.L := fun q => by
  obtain ⟨vs, n, e, _⟩ := y.uu
  obtain ⟨o, es, ep, e', d, _⟩ := y.law
  rw [q, e'] at e; cases e; cases d
theorem SP.frame : FrameOk c.h₀ c.F (SP c lv ms us) where
  stab := fun G h G' h' y x => by
    obtain ⟨m, n1, n2, n3⟩ := y.nm
    obtain ⟨vs, n, e1, d1⟩ := y.mm
    obtain ⟨us, n', e2, d2⟩ := y.uu
    refine ⟨FP.frame.stab _ _ _ _ y.fp x, ⟨m, x.ns m n1, n2, n3⟩, ⟨vs, n, x.kp _ _ y.ds.2.1 e1, d1.mono x.sub⟩, ⟨us, n', x.kp _ _ y.ds.2.2.1 e2, d2.mono x.sub⟩, fun p hp => ?_, y.law.at' fun o e => x.kp _ _ y.ds.2.2.2 e, y.ds, y.no⟩
    rcases x.fresh p hp with q | ⟨q, _⟩
    · exact y.off p q
    · refine ⟨fun r => ?_, fun r => ?_, fun r => ?_⟩
      · (first | exact noAt r q e1 | exact noIs r q e1 | exact (noAt r q e1).elim | exact (noIs r q e1).elim | (rw [r, e1] at q; cases q))
      · (first | exact noAt r q e2 | exact noIs r q e2 | exact (noAt r q e2).elim | exact (noIs r q e2).elim | (rw [r, e2] at q; cases q))
      · obtain ⟨o, _, _, ho, _⟩ := y.law
        (first | exact noAt r q ho | exact noIs r q ho | exact (noAt r q ho).elim | exact (noIs r q ho).elim | (rw [r, ho] at q; cases q))
  fr := fun G h y => FP.frame.fr _ _ y.fp
  off := fun G h y => y.fp.off
/-- objects X beside the run change -/
theorem SP.move {X : List Addr} (y : SP c lv ms us G h) (l : Led G h) (k : KX X h h') (nF : ∀ m, h.Ns c.F m → h'.Ns c.F m) (nL : ∀ m, h.Ns c.L m → h'.Ns c.L m) (hG : ∀ p ∈ G, p.1 ∉ X) (hM : c.M ∉ X) (hU : c.U ∉ X) (h0 : ∀ b o, c.h₀.get? b = some o → b ∉ X) :
    SP c lv ms us G h' ∧ Led G h' := by
  obtain ⟨m, F, b⟩ := y.fp.loc
  obtain ⟨m', n1, n2, n3⟩ := y.nm
  obtain ⟨vs, n, e1, d1⟩ := y.mm
  obtain ⟨us, n', e2, d2⟩ := y.uu
  refine ⟨⟨⟨⟨m, ⟨nF m F.ns, fun b o e => k b o (h0 b o e) (F.keep b o e), F.above⟩, b⟩, (fun x c hc => by cases hc), (fun x c x' hc => by cases hc), (fun x c d hc => by cases hc), y.fp.off, y.fp.new, y.fp.sub⟩, ⟨m', nF m' n1, n2, n3⟩, ⟨vs, n, k _ _ hM e1, d1⟩, ⟨us, n', k _ _ hU e2, d2⟩, y.off, nL _ y.law, y.ds, y.no⟩, fun p hp => k _ _ (hG p hp) (l p hp)⟩
/-- a name of the frame is set -/
theorem SP.set {m : Str → Option Value} {x : Str} {v : Value} {d : Dat} (y : SP c lv ms us G h) (l : Led G h) (n : h.Ns c.F m) (hn : h'.Ns c.F (fun z => if z = x then some v else m z)) (hs : Heap.SameBut c.F h h') (dv : DatIn G v d) (lv' : List (Str × Dat)) (hsub : ∀ p ∈ lv', p ∈ lv) (hnw : (lv'.all fun p => p.1 != x) = true)
    (hx1 : (Str.ofString "missing" == x) = false) (hx2 : (Str.ofString "unexpected" == x) = false) : SP c ((x, d) :: lv') ms us G h' ∧ Led G h' := by
  obtain ⟨m0, F, b⟩ := y.fp.loc
  have e0 := ns_uniq F.ns n
  subst e0
  have fp' := y.fp.less (lv' := lv') (cv' := []) hsub fun _ q => q
  obtain ⟨r1, r2⟩ := fp'.set (d := d) F (fun z d e => b z d (hsub _ e)) l hn hs dv hnw
  obtain ⟨m', n1, n2, n3⟩ := y.nm
  have e1 := ns_uniq n n1
  subst e1
  obtain ⟨vs, nn, e1, d1⟩ := y.mm
  obtain ⟨us, nn', e2, d2⟩ := y.uu
  refine ⟨⟨r1, ⟨_, hn, ?_, ?_⟩, ⟨vs, nn, hs.extBut _ _ y.ds.2.1 e1, d1⟩, ⟨us, nn', hs.extBut _ _ y.ds.2.2.1 e2, d2⟩, y.off, y.law.sameBut hs y.ds.2.2.2, y.ds, y.no⟩, r2⟩
  · have : Str.ofString "missing" ≠ x := by simpa using hx1
    simp [this, n2]
  · have : Str.ofString "unexpected" ≠ x := by simpa using hx2
    simp [this, n3]
theorem SP.at {x : Str} {d : Dat} (e : (x, d) ∈ lv) : ∀ G h, SP c lv ms us G h → ∃ m v, h.Ns c.F m ∧ m x = some v ∧ DatIn G v d := fun G h y => FP.at e G h y.fp
/-- something is laid onto M -/
theorem SP.pushM {vs : List Value} {n : Nat} {ds : List Dat} (y : SP c lv ms us G h) (l : Led G h) (hs : Heap.SameBut c.M h h') (hM : h'.get? c.M = some (W.listOf (List.toArray vs) n)) (d : DatAll G vs ds) : SP c lv ds us G h' ∧ Led G h' := by
  obtain ⟨m, F, b⟩ := y.fp.loc
  obtain ⟨m', n1, n2, n3⟩ := y.nm
  obtain ⟨us, n', e2, d2⟩ := y.uu
  refine ⟨⟨⟨⟨m, F.change hs y.ds.2.1 y.no.1, b⟩, (fun x c hc => by cases hc), (fun x c x' hc => by cases hc), (fun x c d hc => by cases hc), y.fp.off, y.fp.new, y.fp.sub⟩, ⟨m', n1.sameBut hs (Ne.symm y.ds.2.1), n2, n3⟩, ⟨vs, n, hM, d⟩, ⟨us, n', hs.extBut _ _ (Ne.symm y.ds.1) e2, d2⟩, y.off, y.law.sameBut hs (Ne.symm y.MneL), y.ds, y.no⟩, fun p hp => hs.extBut _ _ (y.off p hp).1 (l p hp)⟩
theorem SP.pushU {vs : List Value} {n : Nat} {ds : List Dat} (y : SP c lv ms us G h) (l : Led G h) (hs : Heap.SameBut c.U h h') (hU : h'.get? c.U = some (W.listOf (List.toArray vs) n)) (d : DatAll G vs ds) : SP c lv ms ds G h' ∧ Led G h' := by
  obtain ⟨m, F, b⟩ := y.fp.loc
  obtain ⟨m', n1, n2, n3⟩ := y.nm
  obtain ⟨us, n', e2, d2⟩ := y.mm
  refine ⟨⟨⟨⟨m, F.change hs y.ds.2.2.1 y.no.2.1, b⟩, (fun x c hc => by cases hc), (fun x c x' hc => by cases hc), (fun x c d hc => by cases hc), y.fp.off, y.fp.new, y.fp.sub⟩, ⟨m', n1.sameBut hs (Ne.symm y.ds.2.2.1), n2, n3⟩, ⟨us, n', hs.extBut _ _ y.ds.1 e2, d2⟩, ⟨vs, n, hU, d⟩, y.off, y.law.sameBut hs (Ne.symm y.UneL), y.ds, y.no⟩, fun p hp => hs.extBut _ _ (y.off p hp).2.1 (l p hp)⟩
/-- an exception beside the run -/
structure EX (c : SC) (G : Ldg) (h : Heap) (cx : Value) (e T : Addr) (fl : Value) : Prop where
  tr : Tr h (.type "IndexError") cx e T fl
  offG : ∀ p ∈ G, p.1 ≠ e ∧ p.1 ≠ T
  offM : e ≠ c.M ∧ T ≠ c.M ∧ e ≠ c.U ∧ T ≠ c.U
  no : c.h₀.get? e = none ∧ c.h₀.get? T = none
  offF : T ≠ c.F ∧ T ≠ c.L ∧ e ≠ c.F ∧ e ≠ c.L
end
end Mine
end

section
open PySem PySem.W PyProof.Rows PySem.Calls PySem.SeqAt
set_option Elab.async false
set_option maxRecDepth 100000
set_option linter.all false
set_option maxHeartbeats 1000000
namespace Mine
theorem row_rc {A : Around} {s : Shared} {G : Ldg} {v v' : Value} {a b : Row} (hu : A.units < cLine) (l : Led G s.heap) (d : DatIn G v (rowOf a)) (d' : DatIn G v' (rowOf b)) : CmpAt A s .Eq v v' (decide (a = b)) := by
  obtain ⟨x, t, u, n, rfl, m1, h1⟩ := row_at l d
  obtain ⟨y, t', u', n', rfl, m2, h2⟩ := row_at l d'
  have := RcAt.lists (A := A) (s := s) (e := fun j => if j = 0 then a.1 == b.1 else a.2 == b.2) h1 h2 rfl hu (fun j g1 g2 => ?_)
  · have e : (List.range (List.toArray [Value.str a.1 t, Value.str a.2 u]).size).all (fun j => if j = 0 then a.1 == b.1 else a.2 == b.2) = decide (a = b) := by
      show ([0, 1] : List Nat).all _ = _
      simp only [List.all_cons, List.all_nil, Bool.and_true, if_true]
      by_cases g1 : a.1 = b.1 <;> by_cases g2 : a.2 = b.2 <;> simp [Prod.ext_iff, g1, g2]
    rw [e] at this
    exact this
  · have : j = 0 ∨ j = 1 := by simp at g1; omega
    rcases this with rfl | rfl
    · exact EqAt.str_str _ _ _ _
    · exact EqAt.str_str _ _ _ _
/-- the run's place: its frame on top of the caller's -/
structure Stk (A : Around) (env : Env) (c : SC) : Prop where
  loc : env.locals = c.F
  fra : env.frame = some c.F
  knd : env.scope.kind = .function
  stk : ∃ env' : Env, A.frames = some [env, env'] ∧ env'.frame = some c.L ∧ env'.scope.kind = .function
  uni : A.units + 200 < cLine
theorem HOk.keep {A : Around} {h h' : Heap} {F : Addr} {m : Str → Option Value} (x : HOk A h) (n : h.Ns F m) (k : ∀ b o, b ≠ F → h.get? b = some o → h'.get? b = some o) : HOk A h' := by
  rcases x with x | ⟨e, o, vs, a1, a2, a3, a4⟩
  · exact .inl x
  · refine .inr ⟨e, o, vs, a1, k _ _ (fun q => ?_) a2, a3, a4⟩
    obtain ⟨o', es, ep, ho, hd, _⟩ := n
    (first | exact noAt q a2 ho | exact noIs q a2 ho | exact (noAt q a2 ho).elim | exact (noIs q a2 ho).elim | (rw [q, ho] at a2; cases a2))
    (first | exact noBoth hd a3 | exact noBoth a3 hd | exact (noBoth hd a3).elim | exact (noBoth a3 hd).elim | (rw [hd] at a3; cases a3))
section
variable {prog : Program} {w : World} {A : Around} {env : Env} {c : SC} {lv : List (Str × Dat)} {ms us : List Dat} {s₀ : Shared}
theorem Stk.frs (S : Stk A env c) {G : Ldg} {h : Heap} (y : SP c lv ms us G h) : ∃ outer, A.frames = some (env :: outer) ∧ FrsOk (env :: outer) h ∧ framesOf (env :: outer) = [c.F, c.L] := by
  obtain ⟨env', a1, a2, a3⟩ := S.stk
  obtain ⟨m, n1, _⟩ := y.nm
  refine ⟨[env'], a1, fun v hv => ?_, ?_⟩
  · rcases List.mem_cons.mp hv with rfl | hv
    · exact ⟨by rw [S.knd]; decide, c.F, m, S.fra, n1⟩
    · rw [List.mem_singleton] at hv; subst hv
      exact ⟨by rw [a3]; decide, c.L, c.mL, a2, y.law⟩
  · show List.filterMap _ [env, env'] = _
    rw [List.filterMap_cons, S.fra, List.filterMap_cons, a2]; rfl
/-- a new exception is noted in the run's frame -/
theorem SP.noted {E : Value → Shared → Prop} {G : Ldg} {h h' : Heap} {tk : Nat} {e : Addr} {cx : Value} {Q : Unit → Shared → Prop} (S : Stk A env c) (y : SP c lv ms us G h) (l : Led G h) (x : NewX "IndexError" cx h h' e)
    (k : ∀ h₂ T, SP c lv ms us G h₂ → Led G h₂ → EX c G h₂ cx e T (rawInt c.F) → Q () { s₀ with heap := h₂, toks := tk }) : wpAny (model prog w) A (noteFrame (.ref e) env) Q E { s₀ with heap := h', toks := tk } := by
  obtain ⟨ob, t, he, hcl, hd⟩ := x.there
  have xe : Ext c.F G h G h' := Ext.of_kp l x.keeps
  have y' : SP c lv ms us G h' := SP.frame.stab _ _ _ _ y xe
  obtain ⟨outer, hfr, hFr, hfs⟩ := S.frs y'
  have hGe : ∀ p ∈ G, p.1 ≠ e := fun p hp q => by have := l p hp; (first | exact noAt q this x.new | exact noIs q this x.new | exact (noAt q this x.new).elim | exact (noIs q this x.new).elim | (rw [q, x.new] at this; cases this))
  have hMe : e ≠ c.M := fun q => by obtain ⟨_, _, e1, _⟩ := y.mm; (first | exact noAt (q).symm e1 x.new | exact noIs (q).symm e1 x.new | (rw [← q, x.new] at e1; cases e1))
  have hUe : e ≠ c.U := fun q => by obtain ⟨_, _, e1, _⟩ := y.uu; (first | exact noAt (q).symm e1 x.new | exact noIs (q).symm e1 x.new | (rw [← q, x.new] at e1; cases e1))
  have hLe : e ≠ c.L := ns_ne y.law x.new
  have hFe : e ≠ c.F := fun q => by obtain ⟨_, ⟨_, _, _, e1, _⟩, _⟩ := y.nm; (first | exact noAt (q).symm e1 x.new | exact noIs (q).symm e1 x.new | (rw [← q, x.new] at e1; cases e1))
  have keep0 : ∀ b o, c.h₀.get? b = some o → h.get? b = some o := fun b o q => by obtain ⟨_, F, _⟩ := y.fp.loc; exact F.keep b o q
  have h0e : c.h₀.get? e = none := by
    cases q : c.h₀.get? e with
    | none => rfl
    | some o => have := keep0 _ _ q; (first | exact noBoth x.new this | exact noBoth this x.new | exact (noBoth x.new this).elim | exact (noBoth this x.new).elim | (rw [x.new] at this; cases this))
  refine note_new (s := { s₀ with heap := h', toks := tk }) hfr S.fra hFr he hd rfl rfl rfl fun h₂ T kx nk hT tr => ?_
  dsimp only at kx nk hT
  rw [hfs] at kx nk
  have hTn : h.get? T = none := by
    cases q : h.get? T with
    | none => rfl
    | some o => have := x.keeps _ _ q; (first | exact noBoth hT this | exact noBoth this hT | exact (noBoth hT this).elim | exact (noBoth this hT).elim | (rw [hT] at this; cases this))
  have h0F : c.h₀.get? c.F = none := by
    obtain ⟨_, F, _⟩ := y.fp.loc
    exact Heap.get?_none_of_le F.above
  have q1 : ∀ p ∈ G, p.1 ∉ [e, c.F, c.L] := fun p hp q => by
    simp only [List.mem_cons, List.not_mem_nil, or_false] at q
    rcases q with q | q | q
    · exact hGe p hp q
    · exact y.fp.off p hp q
    · exact (y.off p hp).2.2 q
  have q2 : c.M ∉ [e, c.F, c.L] := fun q => by
    simp only [List.mem_cons, List.not_mem_nil, or_false] at q
    rcases q with q | q | q
    · exact hMe q.symm
    · exact y.ds.2.1 q
    · exact y.MneL q
  have q3 : c.U ∉ [e, c.F, c.L] := fun q => by
    simp only [List.mem_cons, List.not_mem_nil, or_false] at q
    rcases q with q | q | q
    · exact hUe q.symm
    · exact y.ds.2.2.1 q
    · exact y.UneL q
  have q4 : ∀ b o, c.h₀.get? b = some o → b ∉ [e, c.F, c.L] := fun b o hb q => by
    simp only [List.mem_cons, List.not_mem_nil, or_false] at q
    rcases q with q | q | q
    · (first | exact noAt q hb h0e | exact noIs q hb h0e | exact (noAt q hb h0e).elim | exact (noIs q hb h0e).elim | (rw [q, h0e] at hb; cases hb))
    · (first | exact noAt q hb h0F | exact noIs q hb h0F | exact (noAt q hb h0F).elim | exact (noIs q hb h0F).elim | (rw [q, h0F] at hb; cases hb))
    · (first | exact noAt q hb y.no.2.2 | exact noIs q hb y.no.2.2 | exact (noAt q hb y.no.2.2).elim | exact (noIs q hb y.no.2.2).elim | (rw [q, y.no.2.2] at hb; cases hb))
  obtain ⟨y₂, l₂⟩ := y'.move xe.led kx (nk c.F (.head _)) (nk c.L (.tail _ (.head _))) q1 q2 q3 q4
  refine k h₂ T y₂ l₂ ⟨hcl ▸ tr, fun p hp => ⟨hGe p hp, fun q => ?_⟩, ⟨hMe, fun q => ?_, hUe, fun q => ?_⟩, ⟨h0e, ?_⟩, ⟨fun q => ?_, fun q => ?_, hFe, hLe⟩⟩
  · have := l p hp; (first | exact noAt q this hTn | exact noIs q this hTn | exact (noAt q this hTn).elim | exact (noIs q this hTn).elim | (rw [q, hTn] at this; cases this))
  · obtain ⟨_, _, e1, _⟩ := y.mm; (first | exact noAt (q).symm e1 hTn | exact noIs (q).symm e1 hTn | (rw [← q, hTn] at e1; cases e1))
  · obtain ⟨_, _, e1, _⟩ := y.uu; (first | exact noAt (q).symm e1 hTn | exact noIs (q).symm e1 hTn | (rw [← q, hTn] at e1; cases e1))
  · cases q : c.h₀.get? T with
    | none => rfl
    | some o => have := keep0 _ _ q; (first | exact noBoth hTn this | exact noBoth this hTn | exact (noBoth hTn this).elim | exact (noBoth this hTn).elim | (rw [hTn] at this; cases this))
  · obtain ⟨_, ⟨_, _, _, e1, _⟩, _⟩ := y.nm; (first | exact noAt (q).symm e1 hTn | exact noIs (q).symm e1 hTn | (rw [← q, hTn] at e1; cases e1))
  · obtain ⟨_, _, _, e1, _⟩ := y.law; (first | exact noAt (q).symm e1 hTn | exact noIs (q).symm e1 hTn | (rw [← q, hTn] at e1; cases e1))
/-- only the traceback changes -/
theorem SP.tb {G : Ldg} {h h' : Heap} {e T : Addr} {cx fl fl' : Value} (y : SP c lv ms us G h) (l : Led G h) (x : EX c G h cx e T fl) (k : KX [T] h h') (t : Tr h' (.type "IndexError") cx e T fl') : SP c lv ms us G h' ∧ Led G h' ∧ EX c G h' cx e T fl' := by
  obtain ⟨y₂, l₂⟩ := y.move l k (fun m n => n.at' fun o q => k _ _ (by simpa using Ne.symm x.offF.1) q) (fun m n => n.at' fun o q => k _ _ (by simpa using Ne.symm x.offF.2.1) q) (fun p hp => by simpa using (x.offG p hp).2) (by simpa using Ne.symm x.offM.2.1) (by simpa using Ne.symm x.offM.2.2.2) (fun b o hb => by
    simp only [List.mem_singleton]
    intro q
    (first | exact noAt q hb x.no.2 | exact noIs q hb x.no.2 | exact (noAt q hb x.no.2).elim | exact (noIs q hb x.no.2).elim | (rw [q, x.no.2] at hb; cases hb)))
  exact ⟨y₂, l₂, t, x.offG, x.offM, x.no, x.offF⟩
/-- nothing but the frame changes -/
theorem EX.keep {G : Ldg} {h h' : Heap} {cx fl : Value} {e T : Addr} (x : EX c G h cx e T fl) (k : ∀ b o, b ≠ c.F → h.get? b = some o → h'.get? b = some o) : EX c G h' cx e T fl := by
  obtain ⟨⟨⟨oe, vs, he, q1, q2, q3, q4, q5⟩, ne, ⟨oT, ts, hT, r1, r2⟩⟩, a1, a2, a3, a4⟩ := x
  exact ⟨⟨⟨oe, vs, k _ _ a4.2.2.1 he, q1, q2, q3, q4, q5⟩, ne, ⟨oT, ts, k _ _ a4.1 hT, r1, r2⟩⟩, a1, a2, a3, a4⟩
end
end Mine
end

section
open PySem PySem.W PyProof.Rows PySem.Calls PySem.SeqAt
set_option Elab.async false
set_option maxRecDepth 100000
set_option linter.all false
set_option maxHeartbeats 1000000
namespace Mine
section
variable {prog : Program} {w : World} {A : Around} {env : Env} {c : SC} {lv : List (Str × Dat)} {ms us : List Dat} {s₀ : Shared} {E : Value → Shared → Prop}
theorem sp_name {x : Str} {pos : Pos} {d : Dat} {G : Ldg} {h : Heap} {tk : Nat} {Q : Value → Shared → Prop} (S : Stk A env c) (y : SP c lv ms us G h) (e : (x, d) ∈ lv) (hx : env.kindOf x = some .local) (hd : (x == ("__debug__" : Str)) = false) (k : ∀ v, DatIn G v d → Q v { s₀ with heap := h, toks := tk }) :
    wpAny (model prog w) A (eval (.Name x pos) env) Q E { s₀ with heap := h, toks := tk } := by
  obtain ⟨m, v, n, e1, dv⟩ := SP.at e G h y
  exact wpAny_Name (wpAny_loadName_local S.knd hx (by rw [S.loc]; exact n) e1 (k v dv)) hd
/-- an item, or an IndexError -/
theorem sp_item {x i : Str} {p1 p2 pos : Pos} {ds : List Dat} {k : Int} {G : Ldg} {h : Heap} {tk : Nat} {Q : Value → Shared → Prop} (S : Stk A env c) (y : SP c lv ms us G h) (l : Led G h) (hH : HOk A h) (ex : (x, .list ds) ∈ lv) (ei : (i, .int k) ∈ lv) (h0 : 0 ≤ k) (hb : k < 2 ^ 62)
    (hx : env.kindOf x = some .local) (hdx : (x == ("__debug__" : Str)) = false) (hi : env.kindOf i = some .local) (hdi : (i == ("__debug__" : Str)) = false)
    (kin : ∀ v d, ds[k.toNat]? = some d → DatIn G v d → Q v { s₀ with heap := h, toks := tk })
    (kout : ds.length ≤ k.toNat → ∀ h' tk' e cx, (A.handled = none → cx = .none) → NewX "IndexError" cx h h' e → E (.ref e) { s₀ with heap := h', toks := tk' }) :
    wpAny (model prog w) A (eval (.Subscript (.Name x p1) (.Name i p2) pos) env) Q E { s₀ with heap := h, toks := tk } := by
  refine Subscript_ (sp_name S y ex hx hdx fun v dv => sp_name S y ei hi hdi fun v₂ dv₂ => ?_)
  obtain ⟨_, rfl⟩ := iInt dv₂
  obtain ⟨a, vs, n, rfl, hm, _, hl', r⟩ := isList_of (h := h) l dv
  refine tail_any (ops := [.ref a, .int k _]) (s := { s₀ with heap := h, toks := tk }) hl'.typeIs slot_list_getitem.lookup ?_ (by with_unfolding_all rfl)
  by_cases hlt : k.toNat < ds.length
  · obtain ⟨v, hv, dv'⟩ := DatAll.get' r (List.getElem?_eq_getElem hlt)
    exact wpAny_getItem_list hl' h0 (by omega) (by simpa using hv) (kin v _ (List.getElem?_eq_getElem hlt) dv')
  · refine item_out (s := { s₀ with heap := h, toks := tk }) hH hl' (by rw [List.size_toArray, r.length]; omega) (by omega) fun h' tk' e cx hc x => kout (by omega) h' tk' e cx hc x
/-- i += 1 -/
theorem sp_inc {i : Str} {p1 pos p2 : Pos} {kk : Nat} {k : Int} {lv₀ : List (Str × Dat)} {G : Ldg} {h : Heap} {tk : Nat} {Q : Flow → Shared → Prop} (S : Stk A env c) (htk : 0 < tk) (y : SP c ((i, .int k) :: lv₀) ms us G h) (l : Led G h)
    (hi : env.kindOf i = some .local) (hnw : (lv₀.all fun p => p.1 != i) = true) (hx1 : (Str.ofString "missing" == i) = false) (hx2 : (Str.ofString "unexpected" == i) = false)
    (kk' : ∀ h' tk', 0 < tk' → SP c ((i, .int (k + 1)) :: lv₀) ms us G h' → Led G h' → (∀ b o, b ≠ c.F → h.get? b = some o → h'.get? b = some o) → Q .next { s₀ with heap := h', toks := tk' }) :
    wpAny (model prog w) A (exec (.AugAssign (.Name i p1) .Add (.Constant (.int 1) kk p2) pos) env) Q E { s₀ with heap := h, toks := tk } := by
  obtain ⟨m, v, n, e1, dv⟩ := SP.at (.head _) G h y
  obtain ⟨_, rfl⟩ := iInt dv
  refine wpToks (s := { s₀ with heap := h, toks := tk }) htk (wpAny_AugAssign_Name (wpAny_loadName_local S.knd hi (by rw [S.loc]; exact n) e1 (wpAny_Constant_int (PySem.P.iadd_int ?_))))
  refine wpAny_storeName_local hi (m := m) (by rw [S.loc]; exact n) (fun h' hn hs htk' => ?_) (by show (env.scope.kind == .class || (env.scope.kind == .module && env.locals != env.globals)) = false; rw [S.knd]; rfl)
  rw [S.loc] at hn hs
  obtain ⟨y', l'⟩ := y.set (d := .int (k + 1)) l n hn hs (.int _ _) lv₀ (fun p hp => .tail _ hp) hnw hx1 hx2
  exact kk' h' _ htk' y' l' fun b o hb e => hs.extBut b o hb e
/-- how far a run of equal rows goes -/
def runTo (rs : List Row) (r : Row) (k : Nat) : Nat := k + ((rs.drop k).takeWhile fun x => decide (x = r)).length
theorem runTo_hit {rs : List Row} {r : Row} {k : Nat} (h : rs[k]? = some r) : runTo rs r (k + 1) = runTo rs r k := by
  have hlt := (List.getElem?_eq_some_iff.mp h).1
  have e : rs.drop k = r :: rs.drop (k + 1) := by
    rw [List.drop_eq_getElem_cons hlt, (List.getElem?_eq_some_iff.mp h).2]
  unfold runTo
  rw [e, List.takeWhile_cons]
  simp; omega
theorem runTo_miss {rs : List Row} {r x : Row} {k : Nat} (h : rs[k]? = some x) (hne : x ≠ r) : runTo rs r k = k := by
  have hlt := (List.getElem?_eq_some_iff.mp h).1
  have e : rs.drop k = x :: rs.drop (k + 1) := by
    rw [List.drop_eq_getElem_cons hlt, (List.getElem?_eq_some_iff.mp h).2]
  unfold runTo
  rw [e, List.takeWhile_cons]
  simp [hne]
theorem runTo_end {rs : List Row} {r : Row} {k : Nat} (h : rs.length ≤ k) : runTo rs r k = k := by
  unfold runTo
  rw [List.drop_of_length_le h]; rfl
inductive SWI (c : SC) (s₀ : Shared) (A : Around) (i : Str) (lv₀ : List (Str × Dat)) (ms us : List Dat) (G : Ldg) (h : Heap) (rs : List Row) (rr : Row) (k : Nat) : Nat → Shared → Prop
  | mk {h' : Heap} {tk' k' : Nat} (htk : 0 < tk') (y : SP c ((i, .int (k' : Nat)) :: lv₀) ms us G h') (l : Led G h') (hH : HOk A h') (hk : k' ≤ rs.length) (hr : runTo rs rr k' = runTo rs rr k) (kp : ∀ b o, b ≠ c.F → h.get? b = some o → h'.get? b = some o) :
      SWI c s₀ A i lv₀ ms us G h rs rr k (rs.length - k') { s₀ with heap := h', toks := tk' }
/-- while xs[i] == r: i += 1 -/
theorem sp_while {x i r : Str} {p1 p2 p3 p4 p5 p6 p7 p8 p9 : Pos} {kk : Nat} {rs : List Row} {rr : Row} {lv₀ : List (Str × Dat)} (S : Stk A env c) (ex : (x, .list (rs.map rowOf)) ∈ lv₀) (er : (r, rowOf rr) ∈ lv₀) (hlen : rs.length ≤ 1000)
    (hx : env.kindOf x = some .local) (hdx : (x == ("__debug__" : Str)) = false) (hi : env.kindOf i = some .local) (hdi : (i == ("__debug__" : Str)) = false) (hr : env.kindOf r = some .local) (hdr : (r == ("__debug__" : Str)) = false)
    (hnw : (lv₀.all fun p => p.1 != i) = true) (hx1 : (Str.ofString "missing" == i) = false) (hx2 : (Str.ofString "unexpected" == i) = false)
    {G : Ldg} {h : Heap} {tk : Nat} {k : Nat} {Q : Flow → Shared → Prop} (htk : 0 < tk) (y : SP c ((i, .int k) :: lv₀) ms us G h) (l : Led G h) (hH : HOk A h) (hk : k ≤ rs.length)
    (kin : ∀ h' tk', 0 < tk' → runTo rs rr k < rs.length → SP c ((i, .int (runTo rs rr k : Nat)) :: lv₀) ms us G h' → Led G h' → (∀ b o, b ≠ c.F → h.get? b = some o → h'.get? b = some o) → Q .next { s₀ with heap := h', toks := tk' })
    (kout : ∀ h' tk' e T cx, (A.handled = none → cx = .none) → 0 < tk' → runTo rs rr k = rs.length → SP c ((i, .int (rs.length : Nat)) :: lv₀) ms us G h' → Led G h' → EX c G h' cx e T (rawInt c.F) → E (.ref e) { s₀ with heap := h', toks := tk' }) :
    wpAny (model prog w) A (exec (.While (.Compare (.Subscript (.Name x p1) (.Name i p2) p3) [.Eq] [.Name r p4] p5) [.AugAssign (.Name i p6) .Add (.Constant (.int 1) kk p7) p8] [] p9) env) Q E { s₀ with heap := h, toks := tk } := by
  have hu : A.units < cLine := Nat.lt_of_le_of_lt (Nat.le_add_right _ _) S.uni
  refine wpAny_While ?_
  refine codeAny_whileLoop (SWI c s₀ A i lv₀ ms us G h rs rr k) ?_ (rs.length - k) (.mk htk y l hH hk rfl fun _ _ _ e => e)
  rintro _ _ ⟨htk', y', l', hH', hk', hrun, hkeep⟩
  rename_i h' tk' k'
  refine wpAny_toks (wpAny_isTrue_Compare1 (sp_item S y' l' hH' (.tail _ ex) (.head _) (Int.natCast_nonneg _) (by omega) hx hdx hi hdi (fun v d hd dv => ?_) (fun hge h₂ tk₂ e cx hcx xn => ?_)) (by with_unfolding_all rfl))
  · rw [Int.toNat_natCast, List.getElem?_map] at hd
    cases hq : rs[k']? with
    | none => (first | exact noBoth hq hd | exact noBoth hd hq | exact (noBoth hq hd).elim | exact (noBoth hd hq).elim | (rw [hq] at hd; cases hd))
    | some rk =>
      rw [hq] at hd
      cases hd
      have hklt : k' < rs.length := (List.getElem?_eq_some_iff.mp hq).1
      refine sp_name S y' (.tail _ er) hr hdr fun v₂ dv₂ => ?_
      refine (row_rc (A := A) (s := { s₀ with heap := h', toks := tk' }) hu l' dv dv₂) prog w _ _ (wpAny_truthy_bool ?_)
      intro _
      by_cases hreq : rk = rr
      · rw [decide_eq_true hreq, if_pos rfl]
        subst hreq
        refine wpAny_execs_cons (sp_inc (k := (k' : Int)) S htk' y' l' hi hnw hx1 hx2 fun h₃ tk₃ htk₃ y₃ l₃ kp₃ => wpAny_execs_nil ?_)
        have e3 : ((k' : Int) + 1) = ((k' + 1 : Nat) : Int) := by push_cast; rfl
        rw [e3] at y₃
        obtain ⟨mF, nF, _⟩ := y'.nm
        exact ⟨rs.length - (k' + 1), Nat.sub_succ_lt_self _ _ hklt, .mk htk₃ y₃ l₃ (hH'.keep nF kp₃) hklt ((runTo_hit hq).trans hrun) fun b o hb e => kp₃ b o hb (hkeep b o hb e)⟩
      · rw [decide_eq_false hreq, if_neg (by simp)]
        have e1 : runTo rs rr k = k' := hrun.symm.trans (runTo_miss hq hreq)
        refine wpAny_execs_nil (kin h' tk' htk' (by rw [e1]; exact hklt) (by rw [e1]; exact y') l' hkeep)
  · rw [Int.toNat_natCast, List.length_map] at hge
    have ek : k' = rs.length := by omega
    subst ek
    have e1 : runTo rs rr k = rs.length := hrun.symm.trans (runTo_end (Nat.le_refl _))
    intro hle
    dsimp only at hle
    show wpAny (model prog w) A (noteFrame (.ref e) env) (fun _ s'' => cameBackBy (model prog w) A env E (.ref e) s'') _ _
    refine SP.noted S y' l' xn fun h₃ T y₃ l₃ x₃ => ?_
    refine came_back (s := { s₀ with heap := h₃, toks := tk₂ }) S.fra x₃.tr fun h₄ k₄ t₄ => ?_
    obtain ⟨y₄, l₄, x₄⟩ := y₃.tb l₃ x₃ k₄ t₄
    exact kout h₄ tk₂ e T cx hcx (Nat.lt_of_lt_of_le htk' hle) e1 y₄ l₄ x₄
end
end Mine
end

section
open PySem PySem.W PyProof.Rows PySem.Calls PySem.SeqAt
set_option Elab.async false
set_option maxRecDepth 100000
set_option linter.all false
set_option maxHeartbeats 1000000
namespace Mine
/-- a name of the builtins, seen from a frame above h₀ -/
theorem builtin_name {M : Model} {A : Around} {E : Value → Shared → Prop} {s : Shared} {env : Env} {K : Frag} {p : Program} {loose : List Str} {mean : ExcName → Option Value} {mg mb : Str → Option Value} {h₀ : Heap} {x : Str} {pos : Pos} {v : Value} {Q : Value → Shared → Prop}
    (keep : ∀ b o, h₀.get? b = some o → s.heap.get? b = some o) (X : K.In h₀) (T : Top p loose mean mg mb h₀) (e : nsIn K mainGlobals x = some none) (hv : bootBuiltins x = some v) (hn : x ≠ "__name__") (h : Q v s)
    (hk : env.scope.kind = .function) (hx : env.kindOf x = some .globalImplicit) (hg : env.globals = mainGlobals) (hb : env.builtins = builtinsNs) (hd : (x == ("__debug__" : Str)) = false) : wpAny M A (eval (.Name x pos) env) Q E s :=
  Name_function_global hk hx (loadGlobal_builtin (by rw [hg]; exact T.g.keeps keep) (mg_none_of X T.g e) (by rw [hb]; exact T.b.keeps keep) ((T.builtins x hn).trans hv) h) hd
section
variable {prog : Program} {w : World} {A : Around} {env : Env} {c : SC} {lv : List (Str × Dat)} {ms us : List Dat} {s₀ : Shared} {E : Value → Shared → Prop}
/-- a method of one of the two lists, with one argument, as a statement -/
theorem sp_meth {nm meth : Str} {id : String} {D : Addr} {pl : Sem Bool} {p ap pos pos' : Pos} {arg : PySem.Expr} {d : Dat} {G : Ldg} {h : Heap} {tk : Nat} {Q : Flow → Shared → Prop} (S : Stk A env c) (htk : 0 < tk) (y : SP c lv ms us G h) (l : Led G h)
    (hD : (nm = Str.ofString "missing" ∧ D = c.M) ∨ (nm = Str.ofString "unexpected" ∧ D = c.U)) (slot : Slot "list" meth id) (hty : typeOf (.builtin id) = pure (.type "method_descriptor")) (harg : Ev prog w A c.F env (SP c lv ms us) arg d)
    (hnm : env.kindOf nm = some .local) (hdn : (nm == ("__debug__" : Str)) = false) (hint : interactive env = false)
    (k : ∀ h' tk' G' v, 0 < tk' → SP c lv ms us G' h' → Led G' h' → Ext c.F G h G' h' → DatIn G' v d → wpAny (model prog w) A (call (.builtin id) [.ref D, v]) (fun r s' => r = .none ∧ Q .next s') E { s₀ with heap := h', toks := tk' })
    (hsw : swapsWith (.Call (.Attribute (.Name nm p) meth ap) [arg] [] pos) none pos'.line env = pure false := by rfl)
    (hes : starEach [arg] env = (false, eval arg env) :: starEach [] env := by rfl)
    (hme : eval (.Call (.Attribute (.Name nm p) meth ap) [arg] [] pos) env = (do
      let ov ← eval (.Name nm p) env
      standAt ap.atName
      let (f, first) ← holding [ov] (getMethod ov meth pl)
      callWith pos f first (backTo pos (starEach [arg] env)) []) := by rfl) :
    wpAny (model prog w) A (exec (.Expr (.Call (.Attribute (.Name nm p) meth ap) [arg] [] pos) pos') env) Q E { s₀ with heap := h, toks := tk } := by
  obtain ⟨m, n1, n2, n3⟩ := y.nm
  have hv : m nm = some (.ref D) := by
    rcases hD with ⟨rfl, rfl⟩ | ⟨rfl, rfl⟩
    · exact n2
    · exact n3
  have hDl : ∃ vs n, h.get? D = some (W.listOf (List.toArray vs) n) := by
    rcases hD with ⟨rfl, rfl⟩ | ⟨rfl, rfl⟩
    · obtain ⟨vs, n, e, _⟩ := y.mm; exact ⟨vs, n, e⟩
    · obtain ⟨vs, n, e, _⟩ := y.uu; exact ⟨vs, n, e⟩
  obtain ⟨vs, n, eD⟩ := hDl
  refine wpAny_Expr (wpAny_mono (Q := fun r s' => r = Value.none ∧ Q .next s') (MethodCall_ (wpAny_Name (wpAny_loadName_local S.knd hnm (by rw [S.loc]; exact n1) hv ?_) hdn) hme) (fun r s' q => by obtain ⟨rfl, q⟩ := q; exact q) fun _ _ e => e) hint hsw
  refine getMethod_list_of slot hty (s := { s₀ with heap := h, toks := tk }) ⟨_, eD, rfl, _, rfl⟩ ⟨_, eD, rfl⟩ ?_
  refine callWith_method1 (wpAny_items_cons (harg.run _ G _ _ htk y l fun v h' tk' G' htk' x dv => wpAny_items_nil ?_) hes) hes (by rfl)
  exact k h' tk' G' v htk' (SP.frame.stab _ _ _ _ y x) x.led x dv
theorem sp_appM {arg : Value} {d : Dat} {G : Ldg} {h : Heap} {tk : Nat} {Q : Value → Shared → Prop} (y : SP c lv ms us G h) (l : Led G h) (dv : DatIn G arg d) (hsz : ms.length ≤ sizeLine) (k : ∀ h', SP c lv (ms ++ [d]) us G h' → Led G h' → (∀ b o, b ≠ c.M → h.get? b = some o → h'.get? b = some o) → Q .none { s₀ with heap := h', toks := tk }) :
    wpAny (model prog w) A (call (.builtin "list.append") [.ref c.M, arg]) Q E { s₀ with heap := h, toks := tk } := by
  obtain ⟨vs, n, e1, d1⟩ := y.mm
  refine append_at (s := { s₀ with heap := h, toks := tk }) e1 (fun h' hs hD => ?_) (by rw [List.size_toArray, d1.length]; exact hsz)
  rw [List.push_toArray] at hD
  obtain ⟨y', l'⟩ := y.pushM l hs hD (d1.append (DatAll.one dv))
  exact k h' y' l' fun b o hb e => hs.extBut b o hb e
theorem sp_appU {arg : Value} {d : Dat} {G : Ldg} {h : Heap} {tk : Nat} {Q : Value → Shared → Prop} (y : SP c lv ms us G h) (l : Led G h) (dv : DatIn G arg d) (hsz : us.length ≤ sizeLine) (k : ∀ h', SP c lv ms (us ++ [d]) G h' → Led G h' → (∀ b o, b ≠ c.U → h.get? b = some o → h'.get? b = some o) → Q .none { s₀ with heap := h', toks := tk }) :
    wpAny (model prog w) A (call (.builtin "list.append") [.ref c.U, arg]) Q E { s₀ with heap := h, toks := tk } := by
  obtain ⟨vs, n, e1, d1⟩ := y.uu
  refine append_at (s := { s₀ with heap := h, toks := tk }) e1 (fun h' hs hD => ?_) (by rw [List.size_toArray, d1.length]; exact hsz)
  rw [List.push_toArray] at hD
  obtain ⟨y', l'⟩ := y.pushU l hs hD (d1.append (DatAll.one dv))
  exact k h' y' l' fun b o hb e => hs.extBut b o hb e
theorem ext_call {D b : Addr} {ys zs : List Value} {n n2 : Nat} {s : Shared} {Q : Value → Shared → Prop} (eD : s.heap.get? D = some (W.listOf (List.toArray ys) n)) (eb : s.heap.get? b = some (W.listOf (List.toArray zs) n2)) (hsz : ys.length + zs.length ≤ sizeLine)
    (k : ∀ h' n', Heap.SameBut D s.heap h' → h'.get? D = some (W.listOf (List.toArray (ys ++ zs)) n') → Q .none { s with heap := h' }) : wpAny (model prog w) A (call (.builtin "list.extend") [.ref D, .ref b]) Q E s := by
  have hsz' : (List.toArray ys).size + (List.toArray zs).size ≤ sizeLine := by rw [List.size_toArray, List.size_toArray]; exact hsz
  refine call_meets PySem.F.slot_list_extend ⟨_, eD, rfl⟩ PySem.F.entry_list_extend (PySem.F.args_list_extend_2 _ _) (AutoSeq1.list_extend_list_list_0 D (List.toArray ys) n b (List.toArray zs) n2 (extend_door hsz') (Nat.le_trans (Nat.le_add_right _ _) hsz')) ⟨eD, eb, ?_⟩
  have e : List.toArray ys ++ List.toArray zs = (ys ++ zs).toArray := by simp
  refine k _ (if (List.toArray ys ++ List.toArray zs).size == (List.toArray ys).size then n else n + 1) (Heap.SameBut.update ..) ?_
  rw [Heap.get?_update_self _ eD (by rw [mapSeq_app]; rfl), mapSeq_app, e]
theorem sp_extM {arg : Value} {ds : List Dat} {G : Ldg} {h : Heap} {tk : Nat} {Q : Value → Shared → Prop} (y : SP c lv ms us G h) (l : Led G h) (dv : DatIn G arg (.list ds)) (hsz : ms.length + ds.length ≤ sizeLine) (k : ∀ h', SP c lv (ms ++ ds) us G h' → Led G h' → (∀ b o, b ≠ c.M → h.get? b = some o → h'.get? b = some o) → Q .none { s₀ with heap := h', toks := tk }) :
    wpAny (model prog w) A (call (.builtin "list.extend") [.ref c.M, arg]) Q E { s₀ with heap := h, toks := tk } := by
  obtain ⟨vs, n, e1, d1⟩ := y.mm
  obtain ⟨a, zs, n2, rfl, hm, hg, _, r⟩ := isList_of l dv
  refine ext_call (s := { s₀ with heap := h, toks := tk }) e1 hg (by rw [d1.length, r.length]; exact hsz) fun h' n' hs hD => ?_
  obtain ⟨y', l'⟩ := y.pushM l hs hD (d1.append r)
  exact k h' y' l' fun b o hb e => hs.extBut b o hb e
theorem sp_extU {arg : Value} {ds : List Dat} {G : Ldg} {h : Heap} {tk : Nat} {Q : Value → Shared → Prop} (y : SP c lv ms us G h) (l : Led G h) (dv : DatIn G arg (.list ds)) (hsz : us.length + ds.length ≤ sizeLine) (k : ∀ h', SP c lv ms (us ++ ds) G h' → Led G h' → (∀ b o, b ≠ c.U → h.get? b = some o → h'.get? b = some o) → Q .none { s₀ with heap := h', toks := tk }) :
    wpAny (model prog w) A (call (.builtin "list.extend") [.ref c.U, arg]) Q E { s₀ with heap := h, toks := tk } := by
  obtain ⟨vs, n, e1, d1⟩ := y.uu
  obtain ⟨a, zs, n2, rfl, hm, hg, _, r⟩ := isList_of l dv
  refine ext_call (s := { s₀ with heap := h, toks := tk }) e1 hg (by rw [d1.length, r.length]; exact hsz) fun h' n' hs hD => ?_
  obtain ⟨y', l'⟩ := y.pushU l hs hD (d1.append r)
  exact k h' y' l' fun b o hb e => hs.extBut b o hb e
end
end Mine
end

section
open PySem PySem.W PyProof.Rows PySem.Calls PySem.SeqAt
set_option Elab.async false
set_option maxRecDepth 100000
set_option linter.all false
set_option maxHeartbeats 1000000
namespace Mine
/-- what sorted_list_difference reckons -/
def sldP : List Row → List Row → List Row × List Row
  | [], ys => ([], ys)
  | xs, [] => (xs, [])
  | x :: xs, y :: ys =>
    if rlt x y then (x :: (sldP (xs.dropWhile fun z => decide (z = x)) (y :: ys)).1, (sldP (xs.dropWhile fun z => decide (z = x)) (y :: ys)).2)
    else if rlt y x then ((sldP (x :: xs) (ys.dropWhile fun z => decide (z = y))).1, y :: (sldP (x :: xs) (ys.dropWhile fun z => decide (z = y))).2)
    else sldP (xs.dropWhile fun z => decide (z = x)) (ys.dropWhile fun z => decide (z = y))
termination_by xs ys => xs.length + ys.length
decreasing_by
  all_goals simp_wf
  all_goals (have := (List.dropWhile_sublist (l := xs) (fun z => decide (z = x))).length_le; have := (List.dropWhile_sublist (l := ys) (fun z => decide (z = y))).length_le; omega)
theorem sldP_nil (ys : List Row) : sldP [] ys = ([], ys) := by rw [sldP]
theorem sldP_nilR (xs : List Row) : sldP xs [] = (xs, []) := by
  cases xs with
  | nil => rw [sldP]
  | cons x xs => rw [sldP]; simp
theorem drop_runTo (rs : List Row) (r : Row) (k : Nat) : rs.drop (runTo rs r k) = (rs.drop k).dropWhile fun x => decide (x = r) := by
  unfold runTo
  rw [← List.drop_drop]
  generalize rs.drop k = l
  induction l with
  | nil => rfl
  | cons x l ih =>
    rw [List.takeWhile_cons, List.dropWhile_cons]
    by_cases h : x = r
    · simp [h, ih]
    · simp [h]
theorem runTo_le {rs : List Row} {r : Row} {k : Nat} (h : k ≤ rs.length) : runTo rs r k ≤ rs.length := by
  unfold runTo
  have : ((rs.drop k).takeWhile fun x => decide (x = r)).length ≤ (rs.drop k).length := (List.takeWhile_sublist _).length_le
  rw [List.length_drop] at this
  omega
theorem runTo_ge (rs : List Row) (r : Row) (k : Nat) : k ≤ runTo rs r k := Nat.le_add_right _ _
theorem isExc_IndexError : isSubtype (.type "IndexError") (.type "BaseException") = pure true := by rw [isSubtype_type]; kernel_rfl
theorem notTup_IndexError : isSubtype (.type ((Manifest.find? "IndexError").elim "type" fun x => x.metatype)) (.type "tuple") = pure false := by
  have : ((Manifest.find? "IndexError").elim "type" fun x => x.metatype) = "type" := by kernel_rfl
  rw [this, isSubtype_type]; kernel_rfl
theorem self_IndexError : isSubtype (.type "IndexError") (.type "IndexError") = pure true := by rw [isSubtype_type]; kernel_rfl
theorem Stk.mark {A : Around} {env : Env} {c : SC} (S : Stk A env c) (v : Option Value) : Stk (A.mark v) env c := ⟨S.loc, S.fra, S.knd, S.stk, S.uni⟩
section
variable {prog : Program} {w : World} {A : Around} {env : Env} {c : SC} {lv : List (Str × Dat)} {ms us : List Dat} {s₀ : Shared} {E : Value → Shared → Prop} {K : Frag} {p : Program} {loose : List Str} {mean : ExcName → Option Value} {mg mb : Str → Option Value}
theorem sp_ev {A' : Around} {x : Str} {pos : Pos} {d : Dat} (S : Stk A env c) (e : (x, d) ∈ lv) (hx : env.kindOf x = some .local) (hd : (x == ("__debug__" : Str)) = false) : Ev prog w A' c.F env (SP c lv ms us) (.Name x pos) d :=
  Ev.loc (fun G h y => by rw [S.loc]; exact SP.at e G h y) S.knd hx hd
theorem meth_eq {nm meth : Str} {p1 ap pos : Pos} {arg : PySem.Expr} (hp : (ap.endLine == pos.line) = true) (hst : starEach [arg] env = [(false, eval arg env)] := by rfl) : eval (.Call (.Attribute (.Name nm p1) meth ap) [arg] [] pos) env = (do
      let ov ← eval (.Name nm p1) env
      standAt ap.atName
      let (f, first) ← holding [ov] (getMethod ov meth (do return (← importBound (.Name nm p1) env).getD true))
      callWith pos f first (backTo pos (starEach [arg] env)) []) := by
  show (do
    let ov ← eval (.Name nm p1) env
    standAt ap.atName
    methodCall (.Name nm p1) meth ap pos env ov 1 (backTo pos (starEach [arg] env)) []) = _
  unfold methodCall
  rw [hst]
  have e1 : methodCallForm 1 (backTo pos [(false, eval arg env)]) [] = true := rfl
  rw [e1]
  have e2 : methodCallPos true (.Name nm p1) env ap pos = pure pos := by
    unfold methodCallPos
    rw [hp]; rfl
  rw [e2]
  rfl
/-- names of the run that are as they should be -/
structure Nms (env : Env) : Prop where
  ex : env.kindOf (Str.ofString "expected") = some .local
  ac : env.kindOf (Str.ofString "actual") = some .local
  i : env.kindOf (Str.ofString "i") = some .local
  j : env.kindOf (Str.ofString "j") = some .local
  e : env.kindOf (Str.ofString "e") = some .local
  a : env.kindOf (Str.ofString "a") = some .local
  m : env.kindOf (Str.ofString "missing") = some .local
  u : env.kindOf (Str.ofString "unexpected") = some .local
  ie : env.kindOf (Str.ofString "IndexError") = some .globalImplicit
  gl : env.globals = mainGlobals
  bu : env.builtins = builtinsNs
  int : interactive env = false
/-- the except clause: both rests are laid on, and the loop is left -/
theorem sp_handle {X Y : List Dat} {i j : Nat} {e T : Addr} {cx fl : Value} {G : Ldg} {h : Heap} {tk : Nat} {Q : Flow → Shared → Prop} {pn q1 q2 q3 q4 q5 q6 q7 q8 r1 r2 r3 r4 r5 r6 r7 r8 bp hp : Pos}
    (S : Stk A env c) (N : Nms env) (XK : K.In c.h₀) (TT : Top p loose mean mg mb c.h₀) (hns : nsIn K mainGlobals (Str.ofString "IndexError") = some none) (htk : 0 < tk) (y : SP c lv ms us G h) (l : Led G h) (x : EX c G h cx e T fl)
    (eX : (Str.ofString "expected", .list X) ∈ lv) (eY : (Str.ofString "actual", .list Y) ∈ lv) (ei : (Str.ofString "i", .int (i : Nat)) ∈ lv) (ej : (Str.ofString "j", .int (j : Nat)) ∈ lv) (hX : X.length ≤ 1000) (hY : Y.length ≤ 1000) (hm : ms.length ≤ 1000) (hu : us.length ≤ 1000)
    (k : ∀ h' tk' G', 0 < tk' → SP c lv (ms ++ X.drop i) (us ++ Y.drop j) G' h' → Led G' h' → Q .brk { s₀ with heap := h', toks := tk' })
    (hp1 : (q2.endLine == q7.line) = true) (hp2 : (r2.endLine == r7.line) = true) :
    wpAny (model prog w) A (setFlight (.ref e) none) (fun _ s₃ => wpAny (model prog w) A (handleBy (.ref e) env [.ExceptHandler (some (.Name (Str.ofString "IndexError") pn)) none
      [.Expr (.Call (.Attribute (.Name (Str.ofString "missing") q1) (Str.ofString "extend") q2) [.Subscript (.Name (Str.ofString "expected") q3) (.Slice (some (.Name (Str.ofString "i") q4)) none none q5) q6] [] q7) q8,
       .Expr (.Call (.Attribute (.Name (Str.ofString "unexpected") r1) (Str.ofString "extend") r2) [.Subscript (.Name (Str.ofString "actual") r3) (.Slice (some (.Name (Str.ofString "j") r4)) none none r5) r6] [] r7) r8, .Break bp] hp]) Q E s₃) E { s₀ with heap := h, toks := tk } := by
  have hsl : (1000 : Nat) + 1000 ≤ sizeLine := by rw [sizeLine_eq]; omega
  refine set_flight (s := { s₀ with heap := h, toks := tk }) x.tr fun h₁ k₁ t₁ _ => ?_
  obtain ⟨y₁, l₁, x₁⟩ := y.tb l x k₁ t₁
  have keep₁ : ∀ b o, c.h₀.get? b = some o → h₁.get? b = some o := by obtain ⟨_, F, _⟩ := y₁.fp.loc; exact F.keep
  refine wpAny_handleBy_builtin (X := "IndexError") (T := "IndexError") (b := true) isExc_IndexError notTup_IndexError self_IndexError ?_
  refine builtin_name (s := { s₀ with heap := h₁, toks := tk }) keep₁ XK TT hns (v := .type "IndexError") (by decide +kernel) (by decide +kernel) ⟨rfl, ?_, ?_⟩ S.knd N.ie N.gl N.bu (by decide +kernel)
  · obtain ⟨oe, vs, he, hc, _⟩ := x₁.tr.ex
    exact ⟨oe, he, hc⟩
  · rw [if_pos rfl]
    refine set_flight (s := { s₀ with heap := h₁, toks := tk }) x₁.tr fun h₂ k₂ t₂ _ => ?_
    obtain ⟨y₂, l₂, x₂⟩ := y₁.tb l₁ x₁ k₂ t₂
    have S' := S.mark (some (.ref e))
    refine wpAny_execs_cons (sp_meth S' htk y₂ l₂ (.inl ⟨rfl, rfl⟩) PySem.F.slot_list_extend PySem.F.type_list_extend (Ev.slice SP.frame (sp_ev S eX N.ex (by decide +kernel)) (.at (sp_ev S ei N.i (by decide +kernel))) .no (Nat.le_trans hX (by rw [sizeLine_eq]; omega)) (pick_from i)) N.m (by decide +kernel) N.int (fun h₃ tk₃ G₃ v htk₃ y₃ l₃ z₃ dv => ?_) (by rfl) (by rfl) (meth_eq hp1))
    refine sp_extM y₃ l₃ dv (by rw [List.length_drop]; omega) fun h₄ y₄ l₄ _ => ⟨rfl, ?_⟩
    refine wpAny_execs_cons (sp_meth S' htk₃ y₄ l₄ (.inr ⟨rfl, rfl⟩) PySem.F.slot_list_extend PySem.F.type_list_extend (Ev.slice SP.frame (sp_ev S eY N.ac (by decide +kernel)) (.at (sp_ev S ej N.j (by decide +kernel))) .no (Nat.le_trans hY (by rw [sizeLine_eq]; omega)) (pick_from j)) N.u (by decide +kernel) N.int (fun h₅ tk₅ G₅ v' htk₅ y₅ l₅ z₅ dv' => ?_) (by rfl) (by rfl) (meth_eq hp2))
    refine sp_extU y₅ l₅ dv' (by rw [List.length_drop]; omega) fun h₆ y₆ l₆ _ => ⟨rfl, ?_⟩
    exact wpAny_execs_cons (wpAny_Break (k h₆ tk₅ G₅ htk₅ y₆ l₆))
end
end Mine
end

section
open PySem PySem.W PyProof.Rows PySem.Calls PySem.SeqAt
set_option Elab.async false
set_option maxRecDepth 100000
set_option linter.all false
set_option maxHeartbeats 2000000
set_option pp.deepTerms.threshold 8
set_option pp.deepTerms false
set_option pp.proofs.threshold 2
namespace Mine
/-- what a def gives to the law's own frame; it may touch that frame's slots -/
structure FnX (f : Addr) (need : Nat) (ds : List Dat) (d : Dat) : Prop where
  run : ∀ (w : World) (loose : List Str) (mean : ExcName → Option Value) (mg mb : Str → Option Value) (dp un : Nat) (gd : Option (List Code)) (cn : Str) (cs : Scope) (a : Addr) (ccd : Value) (cl : List (Str × Addr)) (A₀ : Around) (base h₀ : Heap) (L : Addr) (m : Str → Option Value) (s : Shared) (G : Ldg) (vs : List Value) (Q E : Value → Shared → Prop),
    Below A₀ base [] h₀ → (hd.heap_39 w.params).In h₀ → Top hd.view_39 loose mean mg mb h₀ → cs.kind = .function → dp + 10 * need < recursionLimit → un + 40 * need + 300 < cLine → Fr h₀ L s.heap m → (∀ p ∈ G, p.1 ≠ L) → 0 < s.toks → Led G s.heap → DatAll G vs ds →
    (∀ v h' tk G', Ext L G s.heap G' h' → DatIn G' v d → Q v { s with heap := h', toks := tk }) →
    wpAny (model PySem.Challenge.rw_om0036_01.row.prog w) (ktrTop dp un gd cn cs L a ccd cl []) (call (.ref f) vs) Q E s
theorem SP.less {c : SC} {lv lv' : List (Str × Dat)} {ms us : List Dat} {G : Ldg} {h : Heap} (y : SP c lv ms us G h) (hs : ∀ p ∈ lv', p ∈ lv) : SP c lv' ms us G h :=
  ⟨y.fp.less hs fun _ q => q, y.nm, y.mm, y.uu, y.off, y.law, y.ds, y.no⟩
theorem FP.raw {h₀ h h' : Heap} {L : Addr} {G₀ G : Ldg} {cells : List (Str × Addr)} {lv : List (Str × Dat)} {cv : List (Str × Addr × Dat)} {m : Str → Option Value} {x : Str} {v : Value} (y : FP h₀ L G₀ cells lv cv G h) (n : h.Ns L m) (hl : Led G h) (hn : h'.Ns L (fun z => if z = x then some v else m z)) (hs : Heap.SameBut L h h') (hnw : (lv.all fun p => p.1 != x) = true) : FP h₀ L G₀ cells lv cv G h' ∧ Led G h' := by
  obtain ⟨m0, F, b⟩ := y.loc
  have e0 := ns_uniq F.ns n
  subst e0
  refine ⟨⟨⟨_, F.set hn hs, fun z d e => ?_⟩, fun nx c hc => ?_, y.inj, fun nx c d' e => ?_, y.off, y.new, y.sub⟩, fun p hp => hs.extBut _ _ (y.off p hp) (hl p hp)⟩
  · obtain ⟨v', e1, e2⟩ := b z d e
    have hz : z ≠ x := by simpa using List.all_eq_true.mp hnw _ e
    exact ⟨v', by simp [hz, e1], e2⟩
  · obtain ⟨a1, a2, a3, u, a4⟩ := y.cls nx c hc
    exact ⟨a1, a2, a3, u, isCell_keep a4 fun o e => hs.extBut _ _ a1 e⟩
  · obtain ⟨hc, u, a4, du⟩ := y.cel nx c d' e
    exact ⟨hc, u, isCell_keep a4 fun o e => hs.extBut _ _ (y.cls nx c hc).1 e, du⟩
/-- x = [] : a list of the frame's own -/
theorem fp_new {prog : Program} {w : World} {A : Around} {env : Env} {E : Value → Shared → Prop} {s₀ : Shared} {h₀ h : Heap} {L : Addr} {G₀ G : Ldg} {lv : List (Str × Dat)} {m : Str → Option Value} {x : Str} {p1 p2 p3 : Pos} {tk : Nat} {Q : Flow → Shared → Prop} (hloc : env.locals = L) (hk : env.scope.kind = .function) (hx : env.kindOf x = some .local) (htk : 0 < tk) (y : FP h₀ L G₀ [] lv [] G h) (n : h.Ns L m) (hl : Led G h) (hnw : (lv.all fun p => p.1 != x) = true)
    (k : ∀ h' tk' M, 0 < tk' → FP h₀ L G₀ [] lv [] G h' → Led G h' → h'.Ns L (fun z => if z = x then some (.ref M) else m z) → h'.get? M = some (W.listOf (List.toArray []) 0) → h.get? M = none → M ≠ L → (∀ b o, b ≠ L → h.get? b = some o → h'.get? b = some o) → Q .next { s₀ with heap := h', toks := tk' }) :
    wpAny (model prog w) A (exec (.Assign [.Name x p1] (.List [] p2) p3) env) Q E { s₀ with heap := h, toks := tk } := by
  subst hloc
  have kp : Kp h (h.push (W.listOf (List.toArray []) 0)) := fun b o e => Heap.get?_push_of_some _ e
  have hML : h.objs.size ≠ env.locals := Nat.ne_of_gt n.lt
  have y1 := FP.frame.stab _ _ _ _ y (Ext.of_kp (L := env.locals) hl kp)
  have n1 : (h.push (W.listOf (List.toArray []) 0)).Ns env.locals m := n.at' fun o e => kp _ _ e
  refine wpToks (s := { s₀ with heap := h, toks := tk }) htk (wpAny_Assign_Name (wpAny_List (wpAny_items_nil ⟨by decide, ?_⟩)) (by rfl))
  refine wpAny_storeName_local hx n1 (fun h' hn hs htk' => ?_) (by show (env.scope.kind == .class || (env.scope.kind == .module && env.locals != env.globals)) = false; rw [hk]; rfl)
  obtain ⟨y2, l2⟩ := y1.raw n1 (fun p hp => kp _ _ (hl p hp)) hn hs hnw
  exact k h' _ h.objs.size htk' y2 l2 hn (hs.extBut _ _ hML (Heap.get?_push_size _ rfl)) (Heap.get?_none_of_le (Nat.le_refl _)) hML fun b o hb e => hs.extBut b o hb (kp b o e)
/-- behind the loop -/
inductive SDone (c : SC) (s : Shared) (xs ys : List Row) (f : Flow) (s' : Shared) : Prop
  | mk (e : f = .next) (h : Heap) (tk : Nat) (G : Ldg) (lv : List (Str × Dat)) (es : s' = { s with heap := h, toks := tk }) (htk : 0 < tk) (y : SP c lv ((sldP xs ys).1.map rowOf) ((sldP xs ys).2.map rowOf) G h) (l : Led G h) : SDone c s xs ys f s'
/-- between two statements: what the run holds; R: further names -/
inductive SV (c : SC) (xs ys : List Row) (i j : Nat) (ms us : List Row) (R : List (Str × Dat)) (G : Ldg) (h : Heap) : Prop
  | mk (lv : List (Str × Dat)) (y : SP c lv (ms.map rowOf) (us.map rowOf) G h) (l : Led G h) (ex : (Str.ofString "expected", .list (xs.map rowOf)) ∈ lv) (ac : (Str.ofString "actual", .list (ys.map rowOf)) ∈ lv) (hi : (Str.ofString "i", .int (i : Nat)) ∈ lv) (hj : (Str.ofString "j", .int (j : Nat)) ∈ lv) (re : ∀ p ∈ R, p ∈ lv) : SV c xs ys i j ms us R G h
/-- between two turns of the loop -/
inductive SInv (c : SC) (s : Shared) (xs ys : List Row) : Nat → Shared → Prop
  | mk {h : Heap} {tk : Nat} {G : Ldg} {i j : Nat} {ms us : List Row} (htk : 0 < tk) (v : SV c xs ys i j ms us [] G h) (hi : i ≤ xs.length) (hj : j ≤ ys.length) (hms : ms.length ≤ i) (hus : us.length ≤ j)
      (e1 : ms ++ (sldP (xs.drop i) (ys.drop j)).1 = (sldP xs ys).1) (e2 : us ++ (sldP (xs.drop i) (ys.drop j)).2 = (sldP xs ys).2) : SInv c s xs ys ((xs.length - i) + (ys.length - j)) { s with heap := h, toks := tk }
def but (n : Str) (lv : List (Str × Dat)) : List (Str × Dat) := lv.filter fun p => p.1 != n
theorem but_mem {n x : Str} {d : Dat} {lv : List (Str × Dat)} (h : (x, d) ∈ lv) (hn : (x != n) = true) : (x, d) ∈ but n lv := List.mem_filter.mpr ⟨h, hn⟩
theorem but_all (n : Str) (lv : List (Str × Dat)) : ((but n lv).all fun p => p.1 != n) = true := List.all_eq_true.mpr fun _ h => (List.mem_filter.mp h).2
theorem but_sub {n : Str} {lv : List (Str × Dat)} {p : Str × Dat} (h : p ∈ lv) : ∀ q ∈ p :: but n lv, q ∈ lv := List.forall_mem_cons.mpr ⟨h, fun _ hq => (List.mem_filter.mp hq).1⟩
theorem SV.less {c : SC} {xs ys : List Row} {i j : Nat} {ms us : List Row} {R R' : List (Str × Dat)} {G : Ldg} {h : Heap} (v : SV c xs ys i j ms us R G h) (hR : ∀ p ∈ R', p ∈ R) : SV c xs ys i j ms us R' G h := by
  obtain ⟨lv, y, l, ex, ac, hi, hj, re⟩ := v
  exact ⟨lv, y, l, ex, ac, hi, hj, fun p hp => re p (hR p hp)⟩
theorem SV.tb {c : SC} {xs ys : List Row} {i j : Nat} {ms us : List Row} {R : List (Str × Dat)} {G : Ldg} {h h' : Heap} {cx fl fl' : Value} {e T : Addr} (v : SV c xs ys i j ms us R G h) (x : EX c G h cx e T fl) (k : KX [T] h h') (t : Tr h' (.type "IndexError") cx e T fl') : SV c xs ys i j ms us R G h' ∧ EX c G h' cx e T fl' := by
  obtain ⟨lv, y, l, ex, ac, hi, hj, re⟩ := v
  obtain ⟨y', l', x'⟩ := y.tb l x k t
  exact ⟨⟨lv, y', l', ex, ac, hi, hj, re⟩, x'⟩
theorem lenR1 {ms : List Row} {x : Row} {n : Nat} (h : ms.length ≤ n) : (ms ++ [x]).length ≤ n + 1 := by rw [List.length_append]; exact Nat.succ_le_succ h
section
variable {prog : Program} {w : World} {A : Around} {env : Env} {c : SC} {xs ys ms us : List Row} {i j : Nat} {R : List (Str × Dat)} {G : Ldg} {h : Heap} {tk : Nat} {s₀ : Shared} {Q : Flow → Shared → Prop} {E : Value → Shared → Prop}
theorem SV.incI {p1 pos p2 : Pos} {kk : Nat} (S : Stk A env c) (N : Nms env) (htk : 0 < tk) (v : SV c xs ys i j ms us R G h) (hR : (R.all fun p => p.1 != Str.ofString "i") = true)
    (k : ∀ h' tk', 0 < tk' → SV c xs ys (i + 1) j ms us R G h' → (∀ b o, b ≠ c.F → h.get? b = some o → h'.get? b = some o) → Q .next { s₀ with heap := h', toks := tk' }) :
    wpAny (model prog w) A (exec (.AugAssign (.Name (Str.ofString "i") p1) .Add (.Constant (.int 1) kk p2) pos) env) Q E { s₀ with heap := h, toks := tk } := by
  obtain ⟨lv, y, l, ex, ac, hi, hj, re⟩ := v
  exact sp_inc S htk (y.less (but_sub hi)) l N.i (but_all _ _) (by decide +kernel) (by decide +kernel) fun h' tk' htk' y' l' kp => k h' tk' htk' ⟨_, y', l', .tail _ (but_mem ex (by decide +kernel)), .tail _ (but_mem ac (by decide +kernel)), .head _, .tail _ (but_mem hj (by decide +kernel)), fun p hp => .tail _ (but_mem (re p hp) (List.all_eq_true.mp hR p hp))⟩ kp
theorem SV.incJ {p1 pos p2 : Pos} {kk : Nat} (S : Stk A env c) (N : Nms env) (htk : 0 < tk) (v : SV c xs ys i j ms us R G h) (hR : (R.all fun p => p.1 != Str.ofString "j") = true)
    (k : ∀ h' tk', 0 < tk' → SV c xs ys i (j + 1) ms us R G h' → (∀ b o, b ≠ c.F → h.get? b = some o → h'.get? b = some o) → Q .next { s₀ with heap := h', toks := tk' }) :
    wpAny (model prog w) A (exec (.AugAssign (.Name (Str.ofString "j") p1) .Add (.Constant (.int 1) kk p2) pos) env) Q E { s₀ with heap := h, toks := tk } := by
  obtain ⟨lv, y, l, ex, ac, hi, hj, re⟩ := v
  exact sp_inc S htk (y.less (but_sub hj)) l N.j (but_all _ _) (by decide +kernel) (by decide +kernel) fun h' tk' htk' y' l' kp => k h' tk' htk' ⟨_, y', l', .tail _ (but_mem ex (by decide +kernel)), .tail _ (but_mem ac (by decide +kernel)), .tail _ (but_mem hi (by decide +kernel)), .head _, fun p hp => .tail _ (but_mem (re p hp) (List.all_eq_true.mp hR p hp))⟩ kp
theorem SV.whileI {p1 p2 p3 p4 p5 p6 p7 p8 p9 : Pos} {kk : Nat} {x : Row} (S : Stk A env c) (N : Nms env) (htk : 0 < tk) (v : SV c xs ys i j ms us R G h) (he : (Str.ofString "e", rowOf x) ∈ R) (hR : (R.all fun p => p.1 != Str.ofString "i") = true) (hlen : xs.length ≤ 1000) (hH : HOk A h) (hk : i ≤ xs.length)
    (kin : ∀ h' tk', 0 < tk' → SV c xs ys (runTo xs x i) j ms us R G h' → (∀ b o, b ≠ c.F → h.get? b = some o → h'.get? b = some o) → Q .next { s₀ with heap := h', toks := tk' })
    (kout : ∀ h' tk' e T cx, (A.handled = none → cx = .none) → 0 < tk' → runTo xs x i = xs.length → SV c xs ys xs.length j ms us R G h' → EX c G h' cx e T (rawInt c.F) → E (.ref e) { s₀ with heap := h', toks := tk' }) :
    wpAny (model prog w) A (exec (.While (.Compare (.Subscript (.Name (Str.ofString "expected") p1) (.Name (Str.ofString "i") p2) p3) [.Eq] [.Name (Str.ofString "e") p4] p5) [.AugAssign (.Name (Str.ofString "i") p6) .Add (.Constant (.int 1) kk p7) p8] [] p9) env) Q E { s₀ with heap := h, toks := tk } := by
  obtain ⟨lv, y, l, ex, ac, hi, hj, re⟩ := v
  have ex' := but_mem (n := Str.ofString "i") ex (by decide +kernel)
  have ac' := but_mem (n := Str.ofString "i") ac (by decide +kernel)
  have hj' := but_mem (n := Str.ofString "i") hj (by decide +kernel)
  have re' : ∀ p ∈ R, p ∈ but (Str.ofString "i") lv := fun p hp => but_mem (re p hp) (List.all_eq_true.mp hR p hp)
  exact sp_while S ex' (re' _ he) hlen N.ex (by decide +kernel) N.i (by decide +kernel) N.e (by decide +kernel) (but_all _ _) (by decide +kernel) (by decide +kernel) htk (y.less (but_sub hi)) l hH hk (fun h' tk' htk' _ y' l' kp => kin h' tk' htk' ⟨_, y', l', .tail _ ex', .tail _ ac', .head _, .tail _ hj', fun p hp => .tail _ (re' p hp)⟩ kp) (fun h' tk' e T cx hcx htk' hr y' l' x' => kout h' tk' e T cx hcx htk' hr ⟨_, y', l', .tail _ ex', .tail _ ac', .head _, .tail _ hj', fun p hp => .tail _ (re' p hp)⟩ x')
theorem SV.whileJ {p1 p2 p3 p4 p5 p6 p7 p8 p9 : Pos} {kk : Nat} {x : Row} (S : Stk A env c) (N : Nms env) (htk : 0 < tk) (v : SV c xs ys i j ms us R G h) (he : (Str.ofString "a", rowOf x) ∈ R) (hR : (R.all fun p => p.1 != Str.ofString "j") = true) (hlen : ys.length ≤ 1000) (hH : HOk A h) (hk : j ≤ ys.length)
    (kin : ∀ h' tk', 0 < tk' → SV c xs ys i (runTo ys x j) ms us R G h' → (∀ b o, b ≠ c.F → h.get? b = some o → h'.get? b = some o) → Q .next { s₀ with heap := h', toks := tk' })
    (kout : ∀ h' tk' e T cx, (A.handled = none → cx = .none) → 0 < tk' → runTo ys x j = ys.length → SV c xs ys i ys.length ms us R G h' → EX c G h' cx e T (rawInt c.F) → E (.ref e) { s₀ with heap := h', toks := tk' }) :
    wpAny (model prog w) A (exec (.While (.Compare (.Subscript (.Name (Str.ofString "actual") p1) (.Name (Str.ofString "j") p2) p3) [.Eq] [.Name (Str.ofString "a") p4] p5) [.AugAssign (.Name (Str.ofString "j") p6) .Add (.Constant (.int 1) kk p7) p8] [] p9) env) Q E { s₀ with heap := h, toks := tk } := by
  obtain ⟨lv, y, l, ex, ac, hi, hj, re⟩ := v
  have ex' := but_mem (n := Str.ofString "j") ex (by decide +kernel)
  have ac' := but_mem (n := Str.ofString "j") ac (by decide +kernel)
  have hi' := but_mem (n := Str.ofString "j") hi (by decide +kernel)
  have re' : ∀ p ∈ R, p ∈ but (Str.ofString "j") lv := fun p hp => but_mem (re p hp) (List.all_eq_true.mp hR p hp)
  exact sp_while S ac' (re' _ he) hlen N.ac (by decide +kernel) N.j (by decide +kernel) N.a (by decide +kernel) (but_all _ _) (by decide +kernel) (by decide +kernel) htk (y.less (but_sub hj)) l hH hk (fun h' tk' htk' _ y' l' kp => kin h' tk' htk' ⟨_, y', l', .tail _ ex', .tail _ ac', .tail _ hi', .head _, fun p hp => .tail _ (re' p hp)⟩ kp) (fun h' tk' e T cx hcx htk' hr y' l' x' => kout h' tk' e T cx hcx htk' hr ⟨_, y', l', .tail _ ex', .tail _ ac', .tail _ hi', .head _, fun p hp => .tail _ (re' p hp)⟩ x')
theorem SV.appM {q1 q2 q3 q7 q8 : Pos} {x : Row} (S : Stk A env c) (N : Nms env) (htk : 0 < tk) (v : SV c xs ys i j ms us R G h) (he : (Str.ofString "e", rowOf x) ∈ R) (hm : ms.length ≤ 1000) (hp : (q2.endLine == q7.line) = true)
    (k : ∀ h' tk' G', 0 < tk' → SV c xs ys i j (ms ++ [x]) us R G' h' → Q .next { s₀ with heap := h', toks := tk' }) :
    wpAny (model prog w) A (exec (.Expr (.Call (.Attribute (.Name (Str.ofString "missing") q1) (Str.ofString "append") q2) [.Name (Str.ofString "e") q3] [] q7) q8) env) Q E { s₀ with heap := h, toks := tk } := by
  obtain ⟨lv, y, l, ex, ac, hi, hj, re⟩ := v
  refine sp_meth S htk y l (.inl ⟨rfl, rfl⟩) PySem.F.slot_list_append PySem.F.type_list_append (sp_ev S (re _ he) N.e (by decide +kernel)) N.m (by decide +kernel) N.int (fun h₄ tk₄ G₄ v₄ htk₄ y₄ l₄ z₄ dv₄ => ?_) (by rfl) (by rfl) (meth_eq hp)
  refine sp_appM y₄ l₄ dv₄ (by rw [List.length_map]; exact Nat.le_trans hm (by decide)) fun h₅ y₅ l₅ _ => ⟨rfl, k h₅ tk₄ G₄ htk₄ ⟨lv, ?_, l₅, ex, ac, hi, hj, re⟩⟩
  rw [List.map_append]; exact y₅
theorem SV.appU {q1 q2 q3 q7 q8 : Pos} {x : Row} (S : Stk A env c) (N : Nms env) (htk : 0 < tk) (v : SV c xs ys i j ms us R G h) (he : (Str.ofString "a", rowOf x) ∈ R) (hm : us.length ≤ 1000) (hp : (q2.endLine == q7.line) = true)
    (k : ∀ h' tk' G', 0 < tk' → SV c xs ys i j ms (us ++ [x]) R G' h' → Q .next { s₀ with heap := h', toks := tk' }) :
    wpAny (model prog w) A (exec (.Expr (.Call (.Attribute (.Name (Str.ofString "unexpected") q1) (Str.ofString "append") q2) [.Name (Str.ofString "a") q3] [] q7) q8) env) Q E { s₀ with heap := h, toks := tk } := by
  obtain ⟨lv, y, l, ex, ac, hi, hj, re⟩ := v
  refine sp_meth S htk y l (.inr ⟨rfl, rfl⟩) PySem.F.slot_list_append PySem.F.type_list_append (sp_ev S (re _ he) N.a (by decide +kernel)) N.u (by decide +kernel) N.int (fun h₄ tk₄ G₄ v₄ htk₄ y₄ l₄ z₄ dv₄ => ?_) (by rfl) (by rfl) (meth_eq hp)
  refine sp_appU y₄ l₄ dv₄ (by rw [List.length_map]; exact Nat.le_trans hm (by decide)) fun h₅ y₅ l₅ _ => ⟨rfl, k h₅ tk₄ G₄ htk₄ ⟨lv, ?_, l₅, ex, ac, hi, hj, re⟩⟩
  rw [List.map_append]; exact y₅
end
theorem abs_env {prog : Program} {w : World} {A : Around} {env₀ : Env} {ss : List Stmt} {Q : Flow → Shared → Prop} {E : Value → Shared → Prop} {s : Shared} (C : Around → Env → Prop) (h0 : C A env₀) (h : ∀ A' env, C A' env → wpAny (model prog w) A' (execs ss env) Q (fun _ _ => False) s) : wpAny (model prog w) A (execs ss env₀) Q E s :=
  wpAny_mono (h A env₀ h0) (fun _ _ q => q) fun _ _ f => f.elim
theorem endX1 {xs Y ms A : List Row} {r : Nat} (h : r = xs.length) (e : ms ++ (sldP (xs.drop r) Y).1 = A) : ms ++ xs.drop xs.length = A := by
  subst h; rw [List.drop_length, sldP_nil] at e; rw [List.drop_length]; exact e
theorem endX2 {xs Y us B : List Row} {r : Nat} (h : r = xs.length) (e : us ++ (sldP (xs.drop r) Y).2 = B) : us ++ Y = B := by
  subst h; rw [List.drop_length, sldP_nil] at e; exact e
theorem endY1 {X ys ms A : List Row} {r : Nat} (h : r = ys.length) (e : ms ++ (sldP X (ys.drop r)).1 = A) : ms ++ X = A := by
  subst h; rw [List.drop_length, sldP_nilR] at e; exact e
theorem endY2 {X ys us B : List Row} {r : Nat} (h : r = ys.length) (e : us ++ (sldP X (ys.drop r)).2 = B) : us ++ ys.drop ys.length = B := by
  subst h; rw [List.drop_length, sldP_nilR] at e; rw [List.drop_length]; exact e
theorem app1 {ms l A : List Row} {x : Row} (e : ms ++ x :: l = A) : (ms ++ [x]) ++ l = A := by rw [List.append_assoc]; exact e
theorem SV.fr {c : SC} {xs ys : List Row} {i j : Nat} {ms us : List Row} {R : List (Str × Dat)} {G : Ldg} {h : Heap} (v : SV c xs ys i j ms us R G h) : ∃ m, h.Ns c.F m := by
  obtain ⟨lv, y, _⟩ := v
  obtain ⟨m, n, _⟩ := y.nm
  exact ⟨m, n⟩
theorem less_sum {a b i j i' j' : Nat} (hi : i ≤ a) (hj : j ≤ b) (hi' : i' ≤ a) (hj' : j' ≤ b) (gi : i ≤ i') (gj : j ≤ j') (h : i < i' ∨ j < j') : (a - i') + (b - j') < (a - i) + (b - j) :=
  h.elim (fun h => Nat.add_lt_add_of_lt_of_le (Nat.sub_lt_sub_left (Nat.lt_of_lt_of_le h hi') h) (Nat.sub_le_sub_left gj b)) fun h => Nat.add_lt_add_of_le_of_lt (Nat.sub_le_sub_left gi a) (Nat.sub_lt_sub_left (Nat.lt_of_lt_of_le h hj') h)
theorem small63 {i n : Nat} (h : i ≤ n) (hn : n ≤ 1000) : (i : Int) < 2 ^ 62 := by omega
theorem row_of_map {xs : List Row} {i : Nat} {d : Dat} (h : (xs.map rowOf)[i]? = some d) : ∃ x, xs[i]? = some x ∧ rowOf x = d := by
  rw [List.getElem?_map] at h
  exact Option.map_eq_some_iff.mp h
theorem drop_at {xs : List Row} {i : Nat} {x : Row} (h : xs[i]? = some x) : xs.drop i = x :: xs.drop (i + 1) := by
  rw [List.drop_eq_getElem_cons (List.getElem?_eq_some_iff.mp h).1, (List.getElem?_eq_some_iff.mp h).2]
theorem fsld (xs ys : List Row) (hx : xs.length ≤ 100) (hy : ys.length ≤ 100) : FnX 100 3 [.list (xs.map rowOf), .list (ys.map rowOf)] (.tuple [.list ((sldP xs ys).1.map rowOf), .list ((sldP xs ys).2.map rowOf)]) := by
  constructor
  intro w loose mean mg mb dp un gd cn cs a ccd cl A₀ base h₀ L m s G vs Q E B X T hk hd1 hu F offL htk hl dvs k
  apply daCons (vs := vs) dvs; intro v1 vs_1 d1 r
  apply daCons (vs := vs_1) r; intro v2 vs_2 d2 r
  apply daNil (vs := vs_2) r
  refine wpAny_call ?_
  refine enterC (K := hd.heap_39 w.params) (p := hd.view_39) B F X T rfl rfl hk (by rfl) (by rfl) (show dp < _ from Nat.lt_of_le_of_lt (Nat.le_add_right dp _) hd1) (BindsTo.of_eq rfl) (by rfl) (by decide) (fun L' h₁ tk cells hle F' N' CA B' X' T' => ?_) (by rfl) (by rfl) (by rfl)
  refine hide fun P back => ?_
  have htk1 : 0 < tk := Nat.lt_of_lt_of_le htk hle
  have hLL : L ≠ L' := Nat.ne_of_lt (Nat.lt_of_lt_of_le F.ns.lt F'.above)
  have hLh : h₀.get? L = none := Heap.get?_none_of_le F.above
  have st0 : ∀ b o, h₀.get? b = some o → (hideAll s.heap [L]).get? b = some o := fun b o e => hideAll_get _ (F.keep b o e) (by simp only [List.mem_singleton]; intro q; (first | exact noAt q e hLh | exact noIs q e hLh | exact (noAt q e hLh).elim | exact (noIs q e hLh).elim | (rw [q, hLh] at e; cases e)))
  have X0 := X.keeps st0
  have T0 := T.keeps st0
  have F0 : Fr (hideAll s.heap [L]) L' h₁ _ := ⟨F'.ns, fun b o e => F'.keep _ _ (of_hideAll _ e), by rw [hideAll_size]; exact F'.above⟩
  have l0 : Led G (hideAll s.heap [L]) := fun p hp => hideAll_get _ (hl p hp) (by simpa using offL p hp)
  have nL1 : h₁.Ns L m := F.ns.at' fun o e => F'.keep _ _ e
  obtain ⟨en, l1⟩ := FP.enter (lv := [(Str.ofString "expected", .list (xs.map rowOf)), (Str.ofString "actual", .list (ys.map rowOf))]) (nms := []) (cv := []) (cells := []) F0 l0 (fun x d e => by
    simp only [List.mem_cons, List.not_mem_nil, or_false, Prod.mk.injEq] at e
    rcases e with ⟨rfl, rfl⟩ | ⟨rfl, rfl⟩
    · exact ⟨v1, rfl, d1⟩
    · exact ⟨v2, rfl, d2⟩) News.nil (fun x c hx => by cases hx) (fun x c x' hx => by cases hx) (fun x c d hx => by cases hx)
  refine back ?_
  clear back P
  refine abs_env (fun A' env => Stk A' env ⟨hideAll s.heap [L], L', L, 0, 0, G, m⟩ ∧ Nms env ∧ A'.handled = none) ⟨⟨rfl, rfl, rfl, ⟨_, rfl, rfl, hk⟩, by show un + 3 + 200 < cLine; omega⟩, ⟨by kernel_rfl!, by kernel_rfl!, by kernel_rfl!, by kernel_rfl!, by kernel_rfl!, by kernel_rfl!, by kernel_rfl!, by kernel_rfl!, by kernel_rfl!, rfl, rfl, by kernel_rfl!⟩, rfl⟩ ?_
  rintro A' env ⟨S0, N, hh⟩
  have hp : (env.scope.kind == .class || (env.scope.kind == .module && env.locals != env.globals)) = false := by rw [S0.knd]; rfl
  obtain ⟨mF, FF, _⟩ := en.loc
  -- i = j = 0
  refine wpAny_execs_cons (wpToks (s := { s with heap := h₁, toks := tk }) htk1 (wpAny_Assign_two (wpAny_Constant_int (wpAny_assign_Name (wpAny_storeName_local N.i (m := mF) (by rw [S0.loc]; exact FF.ns) (fun h₂ hn₂ hs₂ => ?_) hp)))))
  refine wpAny_assign_Name (wpAny_storeName_local N.j hn₂ (fun h₃ hn₃ hs₃ htk₃ => ?_) hp)
  rw [S0.loc] at hn₂ hs₂ hn₃ hs₃
  dsimp only at hn₂ hs₂ hn₃ hs₃
  obtain ⟨y₂, l₂⟩ := en.set (x := Str.ofString "i") (d := .int 0) FF (by assumption) l1 hn₂ hs₂ (.int _ _) (by kernel_rfl!)
  obtain ⟨m2, FF2, b2⟩ := y₂.loc
  have em2 := ns_uniq FF2.ns hn₂
  subst em2
  obtain ⟨y₃, l₃⟩ := y₂.set (x := Str.ofString "j") (d := .int 0) FF2 b2 l₂ hn₃ hs₃ (.int _ _) (by kernel_rfl!)
  have nL3 : h₃.Ns L m := (nL1.sameBut hs₂ hLL).sameBut hs₃ hLL
  refine wpAny_execs_cons (fp_new S0.loc S0.knd N.m htk₃ y₃ hn₃ l₃ (by kernel_rfl!) fun h₄ tk₄ M htk₄ y₄ l₄ n₄ hM₄ hMn hML kp₄ => ?_)
  refine wpAny_execs_cons (fp_new S0.loc S0.knd N.u htk₄ y₄ n₄ l₄ (by kernel_rfl!) fun h₅ tk₅ U htk₅ y₅ l₅ n₅ hU₅ hUn hUL kp₅ => ?_)
  have S : Stk A' env ⟨hideAll s.heap [L], L', L, M, U, G, m⟩ := ⟨S0.loc, S0.fra, S0.knd, S0.stk, S0.uni⟩
  have hMU : M ≠ U := fun q => by (first | exact noAt (q).symm hUn hM₄ | exact noIs (q).symm hUn hM₄ | (rw [← q, hM₄] at hUn; cases hUn))
  have k0₃ : ∀ b o, (hideAll s.heap [L]).get? b = some o → h₃.get? b = some o := by obtain ⟨_, FZ, _⟩ := y₃.loc; exact FZ.keep
  have k0₄ : ∀ b o, (hideAll s.heap [L]).get? b = some o → h₄.get? b = some o := by obtain ⟨_, FZ, _⟩ := y₄.loc; exact FZ.keep
  have sp : SP ⟨hideAll s.heap [L], L', L, M, U, G, m⟩ [(Str.ofString "j", .int 0), (Str.ofString "i", .int 0), (Str.ofString "expected", .list (xs.map rowOf)), (Str.ofString "actual", .list (ys.map rowOf))] [] [] G h₅ := by
    refine ⟨y₅, ⟨_, n₅, ?_, ?_⟩, ⟨[], 0, kp₅ _ _ hML hM₄, .nil⟩, ⟨[], 0, hU₅, .nil⟩, fun p hp => ⟨fun q => ?_, fun q => ?_, offL p hp⟩, (nL3.at' fun o e => kp₄ _ _ hLL e).at' fun o e => kp₅ _ _ hLL e, ⟨hMU, hML, hUL, hLL⟩, ?_, ?_, hideAll_none _ (.head _)⟩
    · show (if Str.ofString "missing" = Str.ofString "unexpected" then _ else if Str.ofString "missing" = Str.ofString "missing" then _ else _) = _
      rw [if_neg (by decide +kernel), if_pos rfl]
    · show (if Str.ofString "unexpected" = Str.ofString "unexpected" then _ else _) = _
      rw [if_pos rfl]
    · have := l₃ p hp; rw [show p.1 = M from q, hMn] at this; cases this
    · have := l₄ p hp; rw [show p.1 = U from q, hUn] at this; cases this
    · cases q : (hideAll s.heap [L]).get? M with
      | none => rfl
      | some o => have := k0₃ _ _ q; (first | exact noBoth hMn this | exact noBoth this hMn | exact (noBoth hMn this).elim | exact (noBoth this hMn).elim | (rw [hMn] at this; cases this))
    · cases q : (hideAll s.heap [L]).get? U with
      | none => rfl
      | some o => have := k0₄ _ _ q; (first | exact noBoth hUn this | exact noBoth this hUn | exact (noBoth hUn this).elim | exact (noBoth this hUn).elim | (rw [hUn] at this; cases this))
  generalize hc : (⟨hideAll s.heap [L], L', L, M, U, G, m⟩ : SC) = c at S sp
  have ch : c.h₀ = hideAll s.heap [L] := by rw [← hc]
  have cL : c.L = L := by rw [← hc]
  have cG : c.G₀ = G := by rw [← hc]
  have cm : c.mL = m := by rw [← hc]
  have XC : (hd.heap_39 w.params).In c.h₀ := by rw [ch]; exact X0
  have TC : Top hd.view_39 loose mean mg mb c.h₀ := by rw [ch]; exact T0
  refine wpAny_execs_cons (wpAny_mono (Q := SDone c s xs ys) ?loop ?after fun _ _ e => e)
  case after =>
    rintro f s' ⟨rfl, h', tk', G', lv, rfl, htk', y, l⟩
    obtain ⟨mm, nm1, nm2, nm3⟩ := y.nm
    obtain ⟨va, na, ea, da⟩ := y.mm
    obtain ⟨vb, nb, eb, db⟩ := y.uu
    have ho : ∀ b o, b ≠ L → s.heap.get? b = some o → c.h₀.get? b = some o := fun b o hb e => by rw [ch]; exact hideAll_get _ e (by simpa using hb)
    have gone : ∀ b, b ≠ L → c.h₀.get? b = none → s.heap.get? b = none := fun b hb e => by
      cases q : s.heap.get? b with
      | none => rfl
      | some o => rw [ho b o hb q] at e; cases e
    obtain ⟨mF', FF', _⟩ := y.fp.loc
    refine wpAny_execs_cons (wpAny_Return_some (wpAny_Tuple (wpAny_items_cons (wpAny_Name (wpAny_loadName_local S.knd N.m (by rw [S.loc]; exact nm1) nm2 (wpAny_items_cons (wpAny_Name (wpAny_loadName_local S.knd N.u (by rw [S.loc]; exact nm1) nm3 (wpAny_items_nil ⟨by show 2 ≤ sizeLine; decide, ?_⟩)) (by decide +kernel)) (by rfl))) (by decide +kernel)) (by rfl))))
    dsimp only
    refine k _ _ _ ((h'.objs.size, { cls := .type "tuple", data := .seq (List.toArray [Value.ref c.M, Value.ref c.U]) 0 }) :: (c.M, W.listOf (List.toArray va) na) :: (c.U, W.listOf (List.toArray vb) nb) :: G') ⟨fun b o hb e => Heap.get?_push_of_some _ (FF'.keep _ _ (ho b o hb e)), fun m' n' => ?_, fun p hp => .tail _ (.tail _ (.tail _ (y.fp.sub p (by rw [cG]; exact hp)))), fun p hp => ?_, fun p hp => ?_⟩ (.tuple (.head _) (.cons (.list (.tail _ (.head _)) (da.mono fun p hp => .tail _ (.tail _ (.tail _ hp)))) (.cons (.list (.tail _ (.tail _ (.head _))) (db.mono fun p hp => .tail _ (.tail _ (.tail _ hp)))) .nil)))
    · have := ns_uniq F.ns n'
      subst this
      have hlaw := y.law
      rw [cL, cm] at hlaw
      exact hlaw.at' fun o e => Heap.get?_push_of_some _ e
    · have hsz : s.heap.objs.size ≤ h'.objs.size := by
        have h1 : s.heap.objs.size ≤ c.F := by
          have := FF'.above
          rw [ch, hideAll_size] at this
          exact this
        exact Nat.le_trans h1 (Nat.le_of_lt FF'.ns.lt)
      rcases List.mem_cons.mp hp with rfl | hp
      · exact .inr ⟨Heap.get?_none_of_le hsz, by rw [← cL]; exact Nat.ne_of_gt y.law.lt⟩
      · rcases List.mem_cons.mp hp with rfl | hp
        · exact .inr ⟨gone _ (by rw [← cL]; exact y.MneL) y.no.1, by rw [← cL]; exact y.MneL⟩
        · rcases List.mem_cons.mp hp with rfl | hp
          · exact .inr ⟨gone _ (by rw [← cL]; exact y.UneL) y.no.2.1, by rw [← cL]; exact y.UneL⟩
          · have hpL : p.1 ≠ L := by rw [← cL]; exact (y.off p hp).2.2
            exact (y.fp.new p hp).imp (fun q => by rw [cG] at q; exact q) fun q => ⟨gone _ hpL q, hpL⟩
    · rcases List.mem_cons.mp hp with rfl | hp
      · exact Heap.get?_push_size _ rfl
      · rcases List.mem_cons.mp hp with rfl | hp
        · exact Heap.get?_push_of_some _ ea
        · rcases List.mem_cons.mp hp with rfl | hp
          · exact Heap.get?_push_of_some _ eb
          · exact Heap.get?_push_of_some _ (l p hp)
  case loop =>
    refine wpAny_While (codeAny_whileLoop (SInv c s xs ys) ?_ _ (.mk (ms := []) (us := []) (i := 0) (j := 0) htk₅ ⟨_, sp, l₅, .tail _ (.tail _ (.head _)), .tail _ (.tail _ (.tail _ (.head _))), .tail _ (.head _), .head _, fun _ e => nomatch e⟩ (Nat.zero_le _) (Nat.zero_le _) (Nat.le_refl _) (Nat.le_refl _) rfl rfl))
    clear sp l₅ htk₅ k cm cG cL ch
    rintro _ _ ⟨htk', v, hi, hj, hms, hus, e1, e2⟩
    rename_i h' tk' G' i j ms us
    refine isTrue_plain (Constant_bool (wpAny_truthy_bool ?_)) (by rfl)
    rw [if_pos rfl]
    refine wpAny_execs_cons (wpAny_Try_except ?_)
    have hmx : ms.length ≤ 100 := Nat.le_trans hms (Nat.le_trans hi hx)
    have hux : us.length ≤ 100 := Nat.le_trans hus (Nat.le_trans hj hy)
    have lX : xs.length ≤ 1000 := Nat.le_trans hx (by decide)
    have lY : ys.length ≤ 1000 := Nat.le_trans hy (by decide)
    refine opq (fun Q1 E1 => (∀ h tk G i' j' ms' us', 0 < tk → SV c xs ys i' j' ms' us' [] G h → i' ≤ xs.length → j' ≤ ys.length → ms'.length ≤ i' → us'.length ≤ j' → i ≤ i' → j ≤ j' → i < i' ∨ j < j' → ms' ++ (sldP (xs.drop i') (ys.drop j')).1 = (sldP xs ys).1 → us' ++ (sldP (xs.drop i') (ys.drop j')).2 = (sldP xs ys).2 → Q1 .next { s with heap := h, toks := tk }) ∧
      ∃ (K : Value → Unit → Shared → Prop) (E0 : Value → Value → Shared → Prop), (∀ e s', wpAny (model PySem.Challenge.rw_om0036_01.row.prog w) A' (noteFrame e env) (K e) (E0 e) s' → E1 e s') ∧
        ∀ h tk G i' j' ms' us' e T cx R, 0 < tk → SV c xs ys i' j' ms' us' R G h → EX c G h cx e T (rawInt c.F) → ms'.length ≤ 200 → us'.length ≤ 200 → ms' ++ xs.drop i' = (sldP xs ys).1 → us' ++ ys.drop j' = (sldP xs ys).2 → K (.ref e) () { s with heap := h, toks := tk }) ⟨?nx, _, _, fun e s' q => q, ?ex⟩ ?go
    case nx =>
      intro h tk G i' j' ms' us' htk v hi' hj' hm hu gi gj hlt e1' e2'
      repeat refine wpAny_execs_nil ?_
      exact ⟨_, less_sum hi hj hi' hj' gi gj hlt, .mk htk v hi' hj' hm hu e1' e2'⟩
    case ex =>
      intro h tk G i' j' ms' us' e T cx R htk v x hm hu e1' e2'
      obtain ⟨lv, y, l, ex, ac, hi', hj', re⟩ := v
      refine sp_handle S N XC TC (by rfl) htk y l x ex ac hi' hj' (by rw [List.length_map]; exact lX) (by rw [List.length_map]; exact lY) (by rw [List.length_map]; exact Nat.le_trans hm (by decide)) (by rw [List.length_map]; exact Nat.le_trans hu (by decide)) (fun h₅ tk₅ G₅ htk₅ y₅ l₅ => ?_) (by rfl) (by rfl)
      refine ⟨rfl, h₅, tk₅, G₅, lv, rfl, htk₅, ?_, l₅⟩
      rw [← List.map_drop, ← List.map_append, e1', ← List.map_drop, ← List.map_append, e2'] at y₅
      exact y₅
    case go =>
    rintro Q1 E1 ⟨hQ, K, E0, hK, hE⟩
    have hA : ∀ h tk G i' j' ms' us' e T cx R, 0 < tk → SV c xs ys i' j' ms' us' R G h → EX c G h cx e T (rawInt c.F) → ms'.length ≤ 200 → us'.length ≤ 200 → ms' ++ xs.drop i' = (sldP xs ys).1 → us' ++ ys.drop j' = (sldP xs ys).2 → E1 (.ref e) { s with heap := h, toks := tk } :=
      fun h tk G i' j' ms' us' e T cx R q1 q2 q3 q4 q5 q6 q7 => hK _ _ (note_again (s := { s with heap := h, toks := tk }) S.fra q3.tr (hE h tk G i' j' ms' us' e T cx R q1 q2 q3 q4 q5 q6 q7))
    have hm2 : ms.length ≤ 200 := Nat.le_trans hmx (by decide)
    have hu2 : us.length ≤ 200 := Nat.le_trans hux (by decide)
    have hm3 : ∀ x, (ms ++ [x]).length ≤ 200 := fun x => Nat.le_trans (lenR1 hmx) (by decide)
    have hu3 : ∀ x, (us ++ [x]).length ≤ 200 := fun x => Nat.le_trans (lenR1 hux) (by decide)
    obtain ⟨lv, y, l, ex, ac, pi, pj, re⟩ := v
    -- e = expected[i]
    refine wpAny_execs_cons (wpAny_toks (wpAny_Assign_Name (sp_item S y l (.inl hh) ex pi (Int.natCast_nonneg _) (small63 hi lX) N.ex (by decide +kernel) N.i (by decide +kernel) (fun vx d hd dv => ?_) (fun hge h₂ tk₂ e cx hcx xn hle => ?_)) (by rfl)))
    rotate_left
    · rw [Int.toNat_natCast, List.length_map] at hge
      have hd := List.drop_of_length_le hge
      rw [hd, sldP_nil] at e1 e2
      exact hK _ _ (SP.noted S y l xn fun h₃ T y₃ l₃ x₃ => hE h₃ tk₂ G' i j ms us e T cx [] (Nat.lt_of_lt_of_le htk' hle) ⟨lv, y₃, l₃, ex, ac, pi, pj, re⟩ x₃ hm2 hu2 (by rw [hd]; exact e1) e2)
    rw [Int.toNat_natCast] at hd
    obtain ⟨x, hqx, rfl⟩ := row_of_map hd
    have hilt : i < xs.length := (List.getElem?_eq_some_iff.mp hqx).1
    have hdx : xs.drop i = x :: xs.drop (i + 1) := drop_at hqx
    obtain ⟨mE, nE, _⟩ := y.nm
    refine wpAny_storeName_local N.e (m := mE) (by rw [S.loc]; exact nE) (fun h₂ hn₂ hs₂ hle₂ => ?_) hp
    rw [S.loc] at hn₂ hs₂
    have htk₂ : 0 < tk' + 1 := Nat.succ_pos _
    obtain ⟨y₂, l₂⟩ := y.set (x := Str.ofString "e") (d := rowOf x) l nE hn₂ hs₂ dv (but (Str.ofString "e") lv) (fun p hp => (List.mem_filter.mp hp).1) (but_all _ _) (by decide +kernel) (by decide +kernel)
    have ex₂ := List.Mem.tail (Str.ofString "e", rowOf x) (but_mem (n := Str.ofString "e") ex (by decide +kernel))
    have ac₂ := List.Mem.tail (Str.ofString "e", rowOf x) (but_mem (n := Str.ofString "e") ac (by decide +kernel))
    have pi₂ := List.Mem.tail (Str.ofString "e", rowOf x) (but_mem (n := Str.ofString "e") pi (by decide +kernel))
    have pj₂ := List.Mem.tail (Str.ofString "e", rowOf x) (but_mem (n := Str.ofString "e") pj (by decide +kernel))
    have pe₂ := List.mem_cons_self (a := (Str.ofString "e", rowOf x)) (l := but (Str.ofString "e") lv)
    generalize (Str.ofString "e", rowOf x) :: but (Str.ofString "e") lv = lv₂ at y₂ ex₂ ac₂ pi₂ pj₂ pe₂
    clear y ex ac pi pj re hn₂ hs₂ nE hle₂ l dv
    -- a = actual[j]
    refine wpAny_execs_cons (wpAny_toks (wpAny_Assign_Name (sp_item S y₂ l₂ (.inl hh) ac₂ pj₂ (Int.natCast_nonneg _) (small63 hj lY) N.ac (by decide +kernel) N.j (by decide +kernel) (fun v₃ d₃ hd₃ dv₃ => ?_) (fun hge h₃ tk₃ e cx hcx xn hle => ?_)) (by rfl)))
    rotate_left
    · rw [Int.toNat_natCast, List.length_map] at hge
      have hd := List.drop_of_length_le hge
      rw [hd, sldP_nilR] at e1 e2
      exact hK _ _ (SP.noted S y₂ l₂ xn fun h₄ T y₄ l₄ x₄ => hE h₄ tk₃ G' i j ms us e T cx [] (Nat.lt_of_lt_of_le htk₂ hle) ⟨lv₂, y₄, l₄, ex₂, ac₂, pi₂, pj₂, fun _ e => nomatch e⟩ x₄ hm2 hu2 e1 (by rw [hd]; exact e2))
    rw [Int.toNat_natCast] at hd₃
    obtain ⟨yy, hqy, rfl⟩ := row_of_map hd₃
    have hjlt : j < ys.length := (List.getElem?_eq_some_iff.mp hqy).1
    have hdy : ys.drop j = yy :: ys.drop (j + 1) := drop_at hqy
    obtain ⟨mA, nA, _⟩ := y₂.nm
    refine wpAny_storeName_local N.a (m := mA) (by rw [S.loc]; exact nA) (fun h₃ hn₃ hs₃ hle₃ => ?_) hp
    rw [S.loc] at hn₃ hs₃
    have htk₃ : 0 < tk' + 1 + 1 := Nat.succ_pos _
    obtain ⟨y₃, l₃⟩ := y₂.set (x := Str.ofString "a") (d := rowOf yy) l₂ nA hn₃ hs₃ dv₃ (but (Str.ofString "a") lv₂) (fun p hp => (List.mem_filter.mp hp).1) (but_all _ _) (by decide +kernel) (by decide +kernel)
    have pe₃ := List.Mem.tail (Str.ofString "a", rowOf yy) (but_mem (n := Str.ofString "a") pe₂ (by decide +kernel))
    have pa₃ := List.mem_cons_self (a := (Str.ofString "a", rowOf yy)) (l := but (Str.ofString "a") lv₂)
    have v₃ : SV c xs ys i j ms us [(Str.ofString "e", rowOf x), (Str.ofString "a", rowOf yy)] G' h₃ := ⟨_, y₃, l₃, .tail _ (but_mem ex₂ (by decide +kernel)), .tail _ (but_mem ac₂ (by decide +kernel)), .tail _ (but_mem pi₂ (by decide +kernel)), .tail _ (but_mem pj₂ (by decide +kernel)), List.forall_mem_cons.mpr ⟨pe₃, List.forall_mem_cons.mpr ⟨pa₃, fun _ e => nomatch e⟩⟩⟩
    clear hn₃ hs₃ nA hle₃ ex₂ ac₂ pi₂ pj₂ pe₂ y₂ l₂ dv₃ hd hd₃
    generalize (Str.ofString "a", rowOf yy) :: but (Str.ofString "a") lv₂ = lv₃ at y₃ pe₃ pa₃
    have Re : (Str.ofString "e", rowOf x) ∈ [(Str.ofString "e", rowOf x), (Str.ofString "a", rowOf yy)] := .head _
    have Ra : (Str.ofString "a", rowOf yy) ∈ [(Str.ofString "e", rowOf x), (Str.ofString "a", rowOf yy)] := .tail _ (.head _)
    have Ri : ([(Str.ofString "e", rowOf x), (Str.ofString "a", rowOf yy)].all fun p => p.1 != Str.ofString "i") = true := by kernel_rfl!
    have Rj : ([(Str.ofString "e", rowOf x), (Str.ofString "a", rowOf yy)].all fun p => p.1 != Str.ofString "j") = true := by kernel_rfl!
    generalize [(Str.ofString "e", rowOf x), (Str.ofString "a", rowOf yy)] = R at v₃ Re Ra Ri Rj
    have R0 : ∀ p ∈ ([] : List (Str × Dat)), p ∈ R := fun _ e => nomatch e
    rw [hdx, hdy, sldP] at e1 e2
    have huA : A'.units < cLine := Nat.lt_of_le_of_lt (Nat.le_add_right _ _) S.uni
    have cI : xs.drop (runTo xs x (i + 1)) = (xs.drop (i + 1)).dropWhile fun z => decide (z = x) := drop_runTo xs x (i + 1)
    have cJ : ys.drop (runTo ys yy (j + 1)) = (ys.drop (j + 1)).dropWhile fun z => decide (z = yy) := drop_runTo ys yy (j + 1)
    have lI := runTo_le (rs := xs) (r := x) (k := i + 1) hilt
    have gI : i < runTo xs x (i + 1) := runTo_ge xs x (i + 1)
    have lJ := runTo_le (rs := ys) (r := yy) (k := j + 1) hjlt
    have gJ : j < runTo ys yy (j + 1) := runTo_ge ys yy (j + 1)
    rw [← cI, ← cJ, ← hdx, ← hdy] at e1 e2
    refine wpAny_execs_cons (wpAny_If (wpAny_isTrue_Compare1 (sp_name S y₃ pe₃ N.e (by decide +kernel) fun ve dve => sp_name S y₃ pa₃ N.a (by decide +kernel) fun va dva => (row_lt (A := A') (s := { s with heap := h₃, toks := tk' + 1 + 1 }) huA l₃ dve dva) _ w _ _ (wpAny_truthy_bool ?_)) (by with_unfolding_all rfl)))
    cases hlt : rlt x yy with
    | true =>
      rw [if_pos rfl]
      rw [if_pos hlt] at e1 e2
      clear y₃ pe₃ pa₃ l₃ cI cJ lJ gJ
      refine wpAny_execs_cons (v₃.appM S N htk₃ Re (Nat.le_trans hmx (by decide)) (by rfl) fun h₄ tk₄ G₄ htk₄ v₄ => ?_)
      refine wpAny_execs_cons (v₄.incI S N htk₄ Ri fun h₅ tk₅ htk₅ v₅ _ => ?_)
      refine wpAny_execs_cons (v₅.whileI S N htk₅ Re Ri lX (.inl hh) hilt (fun h₆ tk₆ htk₆ v₆ _ => ?_) (fun h₆ tk₆ e T cx hcx htk₆ hr v₆ x₆ => ?_))
      · repeat refine wpAny_execs_nil ?_
        exact hQ h₆ tk₆ G₄ _ j _ us htk₆ (v₆.less R0) lI hj (Nat.le_trans (lenR1 hms) gI) hus (Nat.le_of_lt gI) (Nat.le_refl _) (.inl gI) (app1 e1) e2
      · exact hA h₆ tk₆ G₄ _ j _ us e T cx R htk₆ v₆ x₆ (hm3 x) hu2 (endX1 hr (app1 e1)) (endX2 hr e2)
    | false =>
      rw [if_neg (by simp)]
      rw [if_neg (by rw [hlt]; simp)] at e1 e2
      refine wpAny_execs_cons (wpAny_If (wpAny_isTrue_Compare1 (sp_name S y₃ pe₃ N.e (by decide +kernel) fun ve dve => sp_name S y₃ pa₃ N.a (by decide +kernel) fun va dva => (row_gt (A := A') (s := { s with heap := h₃, toks := tk' + 1 + 1 }) huA l₃ dve dva) _ w _ _ (wpAny_truthy_bool ?_)) (by with_unfolding_all rfl)))
      clear y₃ pe₃ pa₃ l₃ cI cJ hdx hdy
      cases hgt : rlt yy x with
      | true =>
        rw [if_pos rfl]
        rw [if_pos hgt] at e1 e2
        refine wpAny_execs_cons (v₃.appU S N htk₃ Ra (Nat.le_trans hux (by decide)) (by rfl) fun h₄ tk₄ G₄ htk₄ v₄ => ?_)
        refine wpAny_execs_cons (v₄.incJ S N htk₄ Rj fun h₅ tk₅ htk₅ v₅ _ => ?_)
        refine wpAny_execs_cons (v₅.whileJ S N htk₅ Ra Rj lY (.inl hh) hjlt (fun h₆ tk₆ htk₆ v₆ _ => ?_) (fun h₆ tk₆ e T cx hcx htk₆ hr v₆ x₆ => ?_))
        · repeat refine wpAny_execs_nil ?_
          exact hQ h₆ tk₆ G₄ i _ ms _ htk₆ (v₆.less R0) hi lJ hms (Nat.le_trans (lenR1 hus) gJ) (Nat.le_refl _) (Nat.le_of_lt gJ) (.inr gJ) e1 (app1 e2)
        · exact hA h₆ tk₆ G₄ i _ ms _ e T cx R htk₆ v₆ x₆ hm2 (hu3 yy) (endY1 hr e1) (endY2 hr (app1 e2))
      | false =>
        rw [if_neg (by simp)]
        rw [if_neg (by rw [hgt]; simp)] at e1 e2
        refine wpAny_execs_cons (v₃.incI S N htk₃ Ri fun h₄ tk₄ htk₄ v₄ _ => ?_)
        refine wpAny_execs_cons (wpAny_Try_finally ?_)
        refine wpAny_execs_cons (v₄.whileI S N htk₄ Re Ri lX (.inl hh) hilt (fun h₅ tk₅ htk₅ v₅ _ => ?_) (fun h₅ tk₅ e T cx hcx htk₅ hr v₅ x₅ => ?_))
        · repeat refine wpAny_execs_nil ?_
          refine wpAny_execs_cons (v₅.incJ S N htk₅ Rj fun h₆ tk₆ htk₆ v₆ _ => ?_)
          refine wpAny_execs_cons (v₆.whileJ S N htk₆ Ra Rj lY (.inl hh) hjlt (fun h₇ tk₇ htk₇ v₇ _ => ?_) (fun h₇ tk₇ e T cx hcx htk₇ hr v₇ x₇ => ?_))
          · repeat refine wpAny_execs_nil ?_
            exact hQ h₇ tk₇ G' _ _ ms us htk₇ (v₇.less R0) lI lJ (Nat.le_trans hms (Nat.le_of_lt gI)) (Nat.le_trans hus (Nat.le_of_lt gJ)) (Nat.le_of_lt gI) (Nat.le_of_lt gJ) (.inl gI) e1 e2
          · refine note_again (s := { s with heap := h₇, toks := tk₇ }) S.fra x₇.tr ?_
            refine came_back (s := { s with heap := h₇, toks := tk₇ }) S.fra x₇.tr fun h₈ k₈ t₈ => ?_
            obtain ⟨v₈, x₈⟩ := v₇.tb x₇ k₈ t₈
            exact hA h₈ tk₇ G' _ _ ms us e T cx R htk₇ v₈ x₈ hm2 hu2 (endY1 hr e1) (endY2 hr e2)
        · replace e1 := endX1 hr e1
          replace e2 := endX2 hr e2
          refine note_again (s := { s with heap := h₅, toks := tk₅ }) S.fra x₅.tr ?_
          refine ⟨ref_ne_byPass _, note_again (s := { s with heap := h₅, toks := tk₅ }) S.fra x₅.tr ?_⟩
          refine set_flight (s := { s with heap := h₅, toks := tk₅ }) x₅.tr fun h₆ k₆ t₆ _ => ?_
          obtain ⟨v₆, x₆⟩ := v₅.tb x₅ k₆ t₆
          have hHm : HOk (A'.mark (some (.ref e))) h₆ := by
            obtain ⟨oe, vs, he, _, hd, _, _, h2⟩ := x₆.tr.ex
            exact .inr ⟨e, oe, vs, rfl, he, hd, by rw [h2, hcx hh]⟩
          have Sm := S.mark (some (.ref e))
          obtain ⟨mZ, nZ⟩ := v₆.fr
          refine wpAny_execs_cons (v₆.incJ Sm N htk₅ Rj fun h₇ tk₇ htk₇ v₇ kp₇ => ?_)
          refine wpAny_execs_cons (v₇.whileJ Sm N htk₇ Ra Rj lY (hHm.keep nZ kp₇) hjlt (fun h₈ tk₈ htk₈ v₈ kp₈ => ?_) (fun h₈ tk₈ e₂ T₂ cx₂ hcx₂ htk₈ hr₈ v₈ x₈ => ?_))
          · repeat refine wpAny_execs_nil ?_
            have x₈ := (x₆.keep kp₇).keep kp₈
            refine pass_on (s := { s with heap := h₈, toks := tk₈ }) S.fra x₈.tr fun h₉ k₉ t₉ => ?_
            obtain ⟨v₉, x₉⟩ := v₈.tb x₈ k₉ t₉
            exact hA h₉ tk₈ G' _ _ ms us e T cx R htk₈ v₉ x₉ hm2 hu2 e1 e2
          · refine note_again (s := { s with heap := h₈, toks := tk₈ }) S.fra x₈.tr ?_
            refine came_back (s := { s with heap := h₈, toks := tk₈ }) S.fra x₈.tr fun h₉ k₉ t₉ => ?_
            obtain ⟨v₉, x₉⟩ := v₈.tb x₈ k₉ t₉
            rw [hr₈] at e2
            exact hA h₉ tk₈ G' _ _ ms us e₂ T₂ cx₂ R htk₈ v₉ x₉ hm2 hu2 e1 e2
end Mine
end

section
open PySem PySem.W PyProof.Rows PySem.Calls
set_option Elab.async false
set_option maxRecDepth 100000
set_option linter.all false
namespace Mine
section
variable {prog : Program} {w : World} {A : Around} {h₀ : Heap} {L : Addr} {env : Env} {P : Ldg → Heap → Prop}
/-- a call of a def of the text that may touch the law's frame -/
theorem Ev.callX {f : Addr} {fn : Str} {pos npos : Pos} {need : Nat} {e₀ : PySem.Expr} {es : List PySem.Expr} {ds : List Dat} {d : Dat} {loose : List Str} {mean : ExcName → Option Value} {mg mb : Str → Option Value} {dp un : Nat} {gd : Option (List Code)} {cn : Str} {cs : Scope} {a : Addr} {ccd : Value} {cl : List (Str × Addr)} {A₀ : Around} {base : Heap} {fo : Obj} {fd : FuncData}
    (st : FrameOk h₀ L P) (B : Below A₀ base [] h₀) (X : (hd.heap_39 w.params).In h₀) (T : Top hd.view_39 loose mean mg mb h₀) (hk : cs.kind = .function) (hd1 : dp + 10 * need < recursionLimit) (hu : un + 40 * need + 300 < cLine)
    (c : FnX f need ds d) (hargs : EvL PySem.Challenge.rw_om0036_01.row.prog w (ktrTop dp un gd cn cs L a ccd cl []) L env P (e₀ :: es) ds)
    (hg : nsIn (hd.heap_39 w.params) mainGlobals fn = some (some (.ref f)) := by rfl) (ho : (hd.heap_39 w.params).lookup f = some fo := by rfl) (hfo : fo.data = .func fd := by rfl) (hke : env.scope.kind = .function := by kernel_rfl!) (hx : env.kindOf fn = some .globalImplicit := by kernel_rfl!) (hgl : env.globals = mainGlobals := by kernel_rfl!) (hdb : (fn == ("__debug__" : Str)) = false := by kernel_rfl!)
    (he : starEach (e₀ :: es) env = (false, eval e₀ env) :: starEach es env := by rfl)
    (hcall : eval (.Call (.Name fn npos) (e₀ :: es) [] pos) env = (do callWith pos (← eval (.Name fn npos) env) [] (backTo pos (starEach (e₀ :: es) env)) (backToKw pos (keywordEach [] env))) := by rfl) :
    Ev PySem.Challenge.rw_om0036_01.row.prog w (ktrTop dp un gd cn cs L a ccd cl []) L env P (.Call (.Name fn npos) (e₀ :: es) [] pos) d := Ev.of fun s G Q E hp hP hl k => by
  obtain ⟨m, F⟩ := st.fr _ _ hP
  refine Call_ (Name_function_global hke hx (loadGlobal_global (by rw [hgl]; exact T.g.keeps F.keep) (mg_of X T.g hg) ?_) hdb) hcall
  refine callWith_def hfo (hargs.run pos s G _ _ hp hP hl fun vs h' tk G' hp' x dvs => ?_) he
  have hP' := st.stab _ _ _ _ hP x
  obtain ⟨m', F'⟩ := st.fr _ _ hP'
  refine ⟨F'.keep _ _ (X _ _ ho), ?_⟩
  refine c.run w loose mean mg mb dp un gd cn cs a ccd cl A₀ base h₀ L m' { s with heap := h', toks := tk } G' vs Q E B X T hk hd1 hu F' (st.off _ _ hP') hp' x.led dvs fun v h'' tk' G'' y dv => ?_
  exact k v h'' tk' G'' (x.trans y) dv
/-- a def that keeps all is one that may touch the law's frame -/
theorem FnD.toX {f : Addr} {need : Nat} {ds : List Dat} {d : Dat} (c : FnD f need ds d) : FnX f need ds d := .mk fun w loose mean mg mb dp un gd cn cs a ccd cl A₀ base h₀ L m s G vs Q E B X T hk hd1 hu F off hp hl dvs k => by
  refine c.run w loose mean mg mb dp un gd cn cs a ccd cl [] A₀ base h₀ L m s G vs Q E B X T hk hd1 (by omega) F hp hl dvs fun v h'' tk' G'' kp sub fr led dv => ?_
  refine k v h'' tk' G'' ⟨fun b o _ e => kp b o e, fun m2 n => n.at' fun o e => kp _ _ e, sub, fun p hp => (fr p hp).imp id fun q => ⟨q, fun e => ?_⟩, led⟩ dv
  obtain ⟨o, _, _, ho', _⟩ := F.ns
  (first | exact noAt e q ho' | exact noIs e q ho' | exact (noAt e q ho').elim | exact (noIs e q ho').elim | (rw [e, ho'] at q; cases q))
end
end Mine
end

section

end

section
open PySem PySem.W PyProof.Rows PySem.Calls PySem.SeqAt
set_option Elab.async false
set_option maxRecDepth 100000
set_option linter.all false
set_option maxHeartbeats 1000000
set_option pp.deepTerms.threshold 8
set_option pp.deepTerms false
set_option pp.proofs.threshold 2
namespace Mine
section
variable {prog : Program} {w : World} {A : Around} {E : Value → Shared → Prop} {s : Shared} {R : Result → Shared → Prop}
theorem compStart1 {elt : PySem.Expr} {g1 g2 : Comprehension} {rest : List Comprehension} {scope : Scope} {pos : Pos} {it acc : Value} {env : Env} (ha : g2.is_async = 0)
    (h0 : codeAny (model prog w) A (.compLoop (.ListComp elt (g1 :: g2 :: rest) scope pos) 1 it acc env) R s)
    (h : wpAny (model prog w) A (pyIter it) (fun it' s' => codeAny (model prog w) A (.compLoop (.ListComp elt (g1 :: g2 :: rest) scope pos) 1 it' acc env) R s')
      (notedBy (model prog w) A env fun x s' => R (.error x) s') s) :
    codeAny (model prog w) A (.compStart (.ListComp elt (g1 :: g2 :: rest) scope pos) 1 it acc env) R s := by
  obtain ⟨target, iter, ifs, as⟩ := g2
  dsimp only at ha
  subst ha
  refine codeAny_of_tree ?_
  show wpAny _ _ ((compStart (.ListComp elt (g1 :: ⟨target, iter, ifs, 0⟩ :: rest) scope pos) 1 it acc env).onRaise (fun x => do noteFrame x env; standAt theWindowsPlace)) _ _ s
  refine wpAny_notedAt ?_
  unfold compStart
  show wpAny _ _ (ask >>= _) _ _ s
  refine wpAny_bind (wpAny_askSetting (wpAny_ite ?_))
  split
  · first
      | exact wpAny_bind (wpAny_pure (wpAny_pure (And.intro rfl h0)))
      | exact wpAny_pure (And.intro rfl h0)
  · first
      | exact wpAny_bind (wpAny_rule (wpAny_bind (wpAny_standAt (wpAny_bind (wpAny_mono h (fun it' s' h' => wpAny_pure (And.intro rfl h')) fun _ _ x => x)))))
      | (refine wpAny_bind (wpAny_rule ?_); show wpAny _ _ (standAt iter.pos >>= _) _ _ s; exact wpAny_bind (wpAny_standAt (wpAny_bind (wpAny_mono h (fun it' s' h' => wpAny_pure (And.intro rfl h')) fun _ _ x => x))))
theorem letGo_range {target : PySem.Expr} {I : Addr} {x left step : Int} {v : Value} {Q' : Unit → Shared → Prop} (hit : IsRangeIter s.heap I x left step) (h : Q' () s) : wpAny (model prog w) A (letOwnedTupleGo target (.ref I) v) Q' E s := by
  unfold letOwnedTupleGo
  cases target <;> first
    | exact wpAny_pure h
    | (cases v <;> first
        | exact wpAny_pure h
        | (refine wpAny_bind (wpAny_load hit ?_)
           exact wpAny_pure h))
end
theorem flat_rep (d : Dat) : ∀ k : Nat, ((List.range k).filter fun _ => true).flatMap (fun _ => [d]) = List.replicate k d
  | 0 => rfl
  | k + 1 => by
    have ih := flat_rep d k
    rw [List.filter_eq_self.mpr (by simp)] at ih ⊢
    rw [List.range_succ, List.flatMap_append, ih, List.replicate_succ']
    rfl
theorem range_size (k : Nat) : Builtin.Range.rangeSize 0 (k : Int) 1 = (k : Int) := by
  unfold Builtin.Range.rangeSize
  simp
  intro h
  simp [h]
def OwnR (C : Addr) (bd : List (Str × Dat)) (m₀ : Str → Option Value) (h : Heap) : Prop := ∃ m, h.Ns C m ∧ ∀ z ∈ bd.map Prod.fst, m z = m₀ z
theorem range_small {k : Nat} (h : k ≤ 1000) : Builtin.Range.small 0 (k : Int) 1 = true := by
  have f : ∀ i : Int, -1 ≤ i → i ≤ 1001 → Builtin.Range.rangeFitsLong i = true := fun i h1 h2 => by
    unfold Builtin.Range.rangeFitsLong
    simp; omega
  unfold Builtin.Range.small
  rw [range_size, f 0 (by omega) (by omega), f k (by omega) (by omega), f 1 (by omega) (by omega)]
  simp [f (k : Int) (by omega) (by omega)]
section
variable {prog : Program} {w : World} {A : Around} {h₀ : Heap} {L C D : Addr} {cenv : Env} {P : Ldg → Heap → Prop} {K : Frag} {p : Program} {loose : List Str} {mean : ExcName → Option Value} {mg mb : Str → Option Value}
/-- for x in range(k): the same datum laid on k times -/
theorem emW_range {elt arg : PySem.Expr} {g1 : Comprehension} {x : Str} {px np cp pos : Pos} {scope : Scope} {k : Nat} {d : Dat} {bd : List (Str × Dat)} {g : Heap} {Gg : Ldg}
    (st : FrameOk h₀ L P) (hh : A.handled = none) (XK : K.In h₀) (TT : Top p loose mean mg mb h₀) (hns : nsIn K mainGlobals (Str.ofString "range") = some none) (hDL : D ≠ L) (hDC : D ≠ C) (hCL : C ≠ L) (hC₀ : g.get? C = none) (hD₀ : g.get? D = none) (hPg : P Gg g)
    (hloc : cenv.locals = C) (hk' : k ≤ 1000) (harg : Ev prog w A L cenv (CP P L C bd) arg (.int k)) (helt : Ev prog w A L cenv (CP P L C bd) elt d)
    (hxbd : x ∉ bd.map Prod.fst) (hkd : cenv.scope.kind = .function) (hx : cenv.kindOf x = some .local) (hr : cenv.kindOf (Str.ofString "range") = some .globalImplicit) (hg : cenv.globals = mainGlobals) (hb : cenv.builtins = builtinsNs) (hpc : (cenv.scope.kind == .class || (cenv.scope.kind == .module && cenv.locals != cenv.globals)) = false)
    (hcall : eval (.Call (.Name (Str.ofString "range") np) [arg] [] cp) cenv = (do callWith cp (← eval (.Name (Str.ofString "range") np) cenv) [] (backTo cp (starEach [arg] cenv)) (backToKw cp (keywordEach [] cenv))))
    (hes : starEach [arg] cenv = (false, eval arg cenv) :: starEach [] cenv)
    (hfs : ∀ v, foldedSetIterable (.Call (.Name (Str.ofString "range") np) [arg] [] cp) cenv v = pure v) :
    EmW prog w A L D [C] (fun h => ∃ m, h.Ns C m) (fun G h => Ext L Gg g G h ∧ CP P L C bd G h)
      (do
        let v ← eval (.Call (.Name (Str.ofString "range") np) [arg] [] cp) cenv
        standAt cp
        let v ← foldedSetIterable (.Call (.Name (Str.ofString "range") np) [arg] [] cp) cenv v
        let _ ← runOwn (.compStart (.ListComp elt [g1, ⟨.Name x px, .Call (.Name (Str.ofString "range") np) [arg] [] cp, [], 0⟩] scope pos) 1 (← holding [v] (pyIter v)) (.ref D) cenv) cenv)
      (List.replicate k d) := .mk fun s G ys n Q E hp hJ hl hD off hO hsz kk => by
  obtain ⟨hX, hCP⟩ := hJ
  have cst := CP.frame (C := C) (lv := bd) st
  obtain ⟨mL, F⟩ := st.fr _ _ hCP.1
  refine wpAny_bind (Call_ (builtin_name F.keep XK TT hns (v := .type "range") (by decide +kernel) (by decide +kernel) ?_ hkd hr hg hb (by decide +kernel)) hcall)
  refine PyProof.Rows.callWith_type1 ((EvL.cons cst harg EvL.nil hes).run cp s G _ _ hp hCP hl fun vs h' tk G' hp' y dvs => ?_) hes (by rfl)
  apply daCons (vs := vs) dvs; intro v vs_1 dv r
  apply daNil (vs := vs_1) r
  apply dInt (v := v) dv; intro t
  refine call_range_1 ?_
  dsimp only
  refine wpAny_bind (wpAny_standAt (wpAny_bind (wpAny_of_eq (hfs _) (wpAny_bind (wpAny_holding ?_)))))
  generalize hH1 : h'.push { cls := Value.type "range", data := Data.fields #[Value.int 0 tk, Value.int (k : Int) t, Value.int 1 (tk + 1)] } = H1
  have hr1 : IsRange H1 h'.objs.size 0 k 1 tk t (tk + 1) := hH1 ▸ Heap.get?_push_size _ rfl
  refine wpAny_pyIter_range (s := { s with heap := H1, toks := tk + 1 + 1 }) hr1 (range_small hk') ?_
  dsimp only
  generalize hH2 : H1.push { cls := Value.type "range_iterator", data := Data.fields #[rawInt 0, rawInt (Builtin.Range.rangeSize 0 k 1), rawInt 1] } = H2
  have hIs : H1.objs.size = h'.objs.size + 1 := by rw [← hH1, Heap.size_push]
  have old2 : ∀ b o, h'.get? b = some o → H2.get? b = some o := fun b o e => hH2 ▸ Heap.get?_push_of_some _ (hH1 ▸ Heap.get?_push_of_some _ e)
  have hI2 : H2.get? H1.objs.size = some { cls := Value.type "range_iterator", data := Data.fields #[rawInt 0, rawInt (Builtin.Range.rangeSize 0 k 1), rawInt 1] } := hH2 ▸ Heap.get?_push_size _ rfl
  have hIle : h'.objs.size ≤ H1.objs.size := by rw [hIs]; exact Nat.le_succ _
  have hI' : h'.get? H1.objs.size = none := Heap.get?_none_of_le hIle
  generalize H1.objs.size = I at hI2 hIle hI' ⊢
  obtain ⟨m₀, n₀, b₀⟩ := (cst.stab _ _ _ _ hCP y).2.2.2
  have hCPy := cst.stab _ _ _ _ hCP y
  obtain ⟨mL', F'⟩ := st.fr _ _ hCPy.1
  have hIL : I ≠ L := ns_ne F'.ns hI'
  have hIC : I ≠ C := ns_ne n₀ hI'
  have hD' := y.kp _ _ hDL hD
  have hID : I ≠ D := fun q => by (first | exact noAt (q).symm hD' hI' | exact noIs (q).symm hD' hI' | (rw [← q, hI'] at hD'; cases hD'))
  have hX' := hX.trans y
  have hX2 : Ext L Gg g G' H2 := hX'.trans (Ext.of_kp y.led old2)
  have hIg : g.get? I = none := hX'.gone hIL hI'
  have y₁ : Ext L G' g G' H2 := ⟨hX2.kp, hX2.ns, fun _ q => q, fun _ q => .inl q, hX2.led⟩
  have off' : ∀ p ∈ G', p.1 ≠ D ∧ p.1 ≠ C ∧ p.1 ≠ I := fun p hp => ⟨fun q => (by
      rcases y.fresh p hp with a | ⟨a, _⟩
      · exact (off p a).1 q
      · ((first | exact noAt q a hD | exact noIs q a hD | exact (noAt q a hD).elim | exact (noIs q a hD).elim | (rw [q, hD] at a; cases a)))), hCPy.2.2.1 p hp, fun q => by have := y.led p hp; (first | exact noAt q this hI' | exact noIs q this hI' | exact (noAt q this hI').elim | exact (noIs q this hI').elim | (rw [q, hI'] at this; cases this))⟩
  have KT := KTurns.ofWalks (target := .Name x px) (Walks.range (prog := prog) (w := w) (A := A) hh I 0 1 k) fun i v s Q E st q => letGo_range st q
  have newW : ∀ b ∈ D :: ([C] ++ [I]), g.get? b = none := by
    refine all3 (P := fun b => g.get? b = none) ?_ ?_ ?_ <;> assumption
  have loop : codeAny (model prog w) A (.compLoop (.ListComp elt [g1, ⟨.Name x px, .Call (.Name (Str.ofString "range") np) [arg] [] cp, [], 0⟩] scope pos) 1 (.ref I) (.ref D) cenv)
      (fun r s' => match r with | .ok f => wpAny (model prog w) A (pure ()) Q E s' | .error e => cameBackBy (model prog w) A cenv E e s') { s with heap := H2, toks := tk + 1 + 1 } := by
    refine turn_loop (s₁ := s) (h₁ := H2) (g := g) (G₀ := G') (G₁ := G') (ys₀ := ys) (n₁ := n) (Wl := [C]) (ip := cp) (emit := do let _ ← call (.builtin "list.append") [.ref D, ← eval elt cenv]) (fun i => CP P L C bd) (fun _ => true) (fun _ => [d]) (OwnR C bd m₀) KT (by rfl)
      (fun h h2 ⟨m, nn, q⟩ kk => ⟨m, nn.at' fun o e => kk C (.head _) o e, q⟩) (fun h q => all1 (P := fun b => ∃ o, h.get? b = some o) (q.elim fun m nn => nn.1.imp fun o r => r.elim fun _ r => r.elim fun _ r => r.1)) (fun i h hst => all1 (P := fun b => ∃ o, h.get? b = some o) ⟨_, hst⟩)
      (not1 (Ne.symm hIL)) hDL (not1 (Ne.symm hCL)) (all1 (P := fun b => b ∉ [I]) (not1 (Ne.symm hIC))) (not1 (Ne.symm hID)) (not1 hDC)
      y₁ newW ?_ ⟨m₀, n₀.at' fun o e => old2 _ _ e, fun _ _ => rfl⟩ (old2 _ _ hD') (fun p hp => ?_) (Nat.lt_of_lt_of_le hp' (Nat.le_trans (Nat.le_succ _) (Nat.le_succ _))) (by rw [flat_rep]; simpa using hsz) (fun i hi => cst.stab) ?_ (fun i hi => EvTs.nil) (fun i hi hc => emW_one (fun h h2 ⟨m, nn, q⟩ kk => ⟨m, nn.at' fun o e => kk C (.head _) o e, q⟩) (fun h q => all1 (P := fun b => ∃ o, h.get? b = some o) (q.elim fun m nn => nn.1.imp fun o r => r.elim fun _ r => r.elim fun _ r => r.1)) hDL (not1 hDC) (not1 (Ne.symm hCL)) helt) ?_
    · show IsRangeIter H2 I (0 + ((0 : Nat) : Int) * 1) ((k : Int) - ((0 : Nat) : Int)) 1
      rw [range_size] at hI2
      simpa using hI2
    · exact not3 (off' p hp).1 (off' p hp).2.1 (off' p hp).2.2
    · intro i hi s' G₂ v Q' E' hPv l₂ y₂ off₂ ⟨m, nn, q⟩ kk'
      subst hloc
      refine wpAny_assign_Name (wpAny_storeName_local hx nn (fun h₃ hn hs => kk' h₃ _ (fun b o hb e => hs.extBut b o (fun r => hb (r ▸ .head _)) e) ⟨_, hn, fun z hz => ?_⟩ fun y₃ => ?_) hpc)
      · have : z ≠ x := fun r => hxbd (r ▸ hz)
        simp [this, q z hz]
      · refine ⟨st.stab _ _ _ _ hPg ⟨y₃.kp, y₃.ns, fun p hp => y₃.sub p (hX'.sub p hp), fun p hp => ?_, y₃.led⟩, hCL, fun p hp r => off₂ p hp (r ▸ .head _), _, hn, fun z d' e => ?_⟩
        · rcases y₃.fresh p hp with r | r
          · exact hX'.fresh p r
          · exact .inr r
        · obtain ⟨v', e1, e2⟩ := b₀ z d' e
          have hz : z ∈ bd.map Prod.fst := List.mem_map.mpr ⟨_, e, rfl⟩
          have hzx : z ≠ x := fun r => hxbd (r ▸ hz)
          exact ⟨v', by simp [hzx, q z hz, e1], e2.mono y₃.sub⟩
    · intro h₃ tk₃ G₃ ys' n₃ hp₃ x₃ ⟨m₃, nn₃, _⟩ hD₃ dys off₃
      rw [flat_rep] at dys
      refine wpAny_pure (kk h₃ tk₃ G₃ ys' n₃ hp₃ ⟨fun b o hb hw e => ?_, fun m nn => ?_, fun p hp => x₃.sub p (y.sub p hp), fun p hp => ?_, x₃.led⟩ hD₃ dys (fun p hp => ?_) ⟨m₃, nn₃⟩)
      · have e' := y.kp b o hb e
        refine x₃.kp b o hb (fun q => ?_) (old2 _ _ e')
        rcases List.mem_cons.mp q with q | q
        · exact hw (q ▸ .head _)
        rcases List.mem_cons.mp q with q | q
        · exact hw (q ▸ .tail _ (.head _))
        · replace q := List.mem_singleton.mp q
          (first | exact noAt q e' hI' | exact noIs q e' hI' | exact (noAt q e' hI').elim | exact (noIs q e' hI').elim | (rw [q, hI'] at e'; cases e'))
      · exact x₃.ns m ((y.ns m nn).at' fun o e => old2 _ _ e)
      · rcases x₃.fresh p hp with q | ⟨q, r, t'⟩
        · rcases y.fresh p q with q' | ⟨q', r'⟩
          · exact .inl q'
          · obtain ⟨a1, a2, a3⟩ := off' p q
            exact .inr ⟨q', r', not2 a1 a2⟩
        · refine .inr ⟨?_, r, fun hw => t' ?_⟩
          · cases e : s.heap.get? p.1 with
            | none => rfl
            | some o => rw [old2 _ _ (y.kp _ _ r e)] at q; cases q
          · exact List.mem_append_left (as := [D, C]) [I] hw
      · exact ⟨fun q => off₃ p hp (q ▸ .head _), not1 fun q => off₃ p hp (q ▸ .tail _ (.head _))⟩
  exact wpAny_bind (wpAny_runOwn (compStart1 rfl loop (wpAny_pyIter_rangeiter hI2 loop)))
end
end Mine
end

section
open PySem PySem.W PyProof.Rows PySem.Calls PySem.SeqAt
set_option Elab.async false
set_option maxRecDepth 100000
set_option linter.all false
set_option maxHeartbeats 1000000
set_option pp.deepTerms.threshold 8
set_option pp.deepTerms false
set_option pp.proofs.threshold 2
namespace Mine
theorem da1 {G : List (Addr × Obj)} {vs : List Value} {a : Dat} (d : DatAll G vs [a]) : ∃ v, vs = [v] ∧ DatIn G v a := by
  cases d with
  | cons d1 r =>
  cases r
  exact ⟨_, rfl, d1⟩
def lastLt (two : List Row) (r : Row) : Bool := match two.getLast? with
  | none => true
  | some l => rlt l r
def thrOf (two : List Row) (r : Row) : List Row := if r ∈ two then [] else List.replicate (if lastLt two r then 3 else 1) r
def thriceP (one two : List Row) : List Row := one.flatMap (thrOf two)
def toRow : Dat → Row
  | .list [.str a, .str b] => (a, b)
  | _ => (Str.ofString "", Str.ofString "")
theorem toRow_of (r : Row) : toRow (rowOf r) = r := rfl
theorem rowOf_inj {a b : Row} (h : rowOf a = rowOf b) : a = b := by rw [← toRow_of a, h, toRow_of]
def rowOk (r : Row) : Bool := PyData.strOk r.1 && PyData.strOk r.2
theorem rowOf_ok {r : Row} (h : rowOk r = true) : kqdOk 8 (rowOf r) = true := by
  unfold rowOk at h
  rw [Bool.and_eq_true] at h
  simp [rowOf, kqdOk, h]
theorem rlt_self (r : Row) : rlt r r = false := by unfold rlt; simp
open Classical in
noncomputable def notInD (two : List Row) (d : Dat) : Bool := !decide (d ∈ two.map rowOf)
theorem notInD_row (two : List Row) (r : Row) : notInD two (rowOf r) = !decide (r ∈ two) := by
  unfold notInD
  congr 1
  rw [decide_eq_decide]
  constructor
  · intro h
    obtain ⟨r', h1, h2⟩ := List.mem_map.mp h
    exact rowOf_inj h2 ▸ h1
  · intro h
    exact List.mem_map.mpr ⟨r, h, rfl⟩
def thrN (two : List Row) (d : Dat) : Nat := if lastLt two (toRow d) then 3 else 1
theorem thrice_eq (two : List Row) : ∀ one : List Row, ((one.map rowOf).filter (notInD two)).flatMap (fun d => List.replicate (thrN two d) d) = (thriceP one two).map rowOf
  | [] => rfl
  | r :: one => by
    have ih := thrice_eq two one
    have e : thriceP (r :: one) two = thrOf two r ++ thriceP one two := rfl
    rw [e, List.map_append, List.map_cons, List.filter_cons, notInD_row]
    by_cases h : r ∈ two
    · rw [if_neg (by simp [h]), ih]
      have : thrOf two r = [] := by unfold thrOf; rw [if_pos h]
      rw [this]; rfl
    · rw [if_pos (by simp [h]), List.flatMap_cons, ih]
      have : thrOf two r = List.replicate (if lastLt two r then 3 else 1) r := by unfold thrOf; rw [if_neg h]
      rw [this, List.map_replicate]
      rfl
theorem thrice_len (two : List Row) : ∀ one : List Row, (thriceP one two).length ≤ 3 * one.length
  | [] => Nat.le_refl _
  | r :: one => by
    have ih := thrice_len two one
    have e : thriceP (r :: one) two = thrOf two r ++ thriceP one two := rfl
    rw [e, List.length_append, List.length_cons]
    have : (thrOf two r).length ≤ 3 := by
      unfold thrOf
      split
      · exact Nat.zero_le _
      · rw [List.length_replicate]; split <;> omega
    omega
theorem drop_last (two : List Row) : two.drop (two.length - 1) = (match two.getLast? with | none => [] | some l => [l]) := by
  cases h : two.getLast? with
  | none => rw [List.getLast?_eq_none_iff] at h; subst h; rfl
  | some l =>
    obtain ⟨ys, rfl⟩ := List.getLast?_eq_some_iff.mp h
    simp
section
variable {prog : Program} {w : World} {A : Around} {L : Addr}
theorem lt_lastD {two : List Row} {r : Row} (hu : A.units + 10 < cLine) : CmpD prog w A L .Lt (.list ((two.drop (two.length - 1)).map rowOf)) (.list [rowOf r]) (lastLt two r) := ⟨fun s G m v₁ v₂ Q E _ l n off d₁ d₂ k => (by
  obtain ⟨a, vs, na, rfl, hma, _, hla, ra⟩ := isList_of l d₁
  obtain ⟨b, us, nb, rfl, hmb, _, hlb, rb⟩ := isList_of l d₂
  refine (CmpAt.listsLt (A := A) hla hlb (by omega) ?_) prog w E Q (k _ _ _ (.rfl' l))
  rw [drop_last] at ra
  obtain ⟨_, rfl, db⟩ := da1 rb
  unfold lastLt
  cases hq : two.getLast? with
  | none =>
    rw [hq] at ra
    cases ra
    exact LexLt.nilL _
  | some x =>
    rw [hq] at ra
    obtain ⟨_, rfl, da⟩ := da1 ra
    have e := row_eq (A := A.in1) (s := s) (by show A.units + 1 < cLine; omega) l da db
    by_cases hxr : x = r
    · rw [decide_eq_true hxr] at e
      dsimp only
      rw [hxr, rlt_self]
      exact .eq e (LexLt.nilL [])
    · rw [decide_eq_false hxr] at e
      exact .ne e (row_lt (A := A.in1) (s := s) (by show A.units + 1 < cLine; omega) l da db))⟩
end
abbrev emit2 (elt target iter : PySem.Expr) (ifs : List PySem.Expr) (t2 i2 : PySem.Expr) (ifs2 : List PySem.Expr) (scope : Scope) (pos : Pos) (cenv : Env) (acc : Value) : Sem Unit := do
  let v ← eval i2 cenv
  standAt i2.pos
  let v ← foldedSetIterable i2 cenv v
  let _ ← runOwn (.compStart (.ListComp elt [⟨target, iter, ifs, 0⟩, ⟨t2, i2, ifs2, 0⟩] scope pos) 1 (← holding [v] (pyIter v)) acc cenv) cenv
theorem turn2 (elt target iter : PySem.Expr) (ifs : List PySem.Expr) (t2 i2 : PySem.Expr) (ifs2 : List PySem.Expr) (scope : Scope) (pos : Pos) (it acc : Value) (cenv : Env) : compTurn (.ListComp elt [⟨target, iter, ifs, 0⟩, ⟨t2, i2, ifs2, 0⟩] scope pos) 0 it acc cenv = (do
      standAt iter.pos
      match ← pyNext it with
      | none => pure (.done .next)
      | some v =>
        letOwnedTupleGo target it v
        assign target cenv v
        let mut ok := true
        for c in ifs do
          if ok then ok ← isTrue c cenv (eval c cenv)
        if ok then
          emit2 elt target iter ifs t2 i2 ifs2 scope pos cenv acc
        again (.compLoop (.ListComp elt [⟨target, iter, ifs, 0⟩, ⟨t2, i2, ifs2, 0⟩] scope pos) 0 it acc cenv)) := by
  have e : ∀ k : Sem Fin, (emit2 elt target iter ifs t2 i2 ifs2 scope pos cenv acc >>= fun _ => k) = (do
    let v ← eval i2 cenv
    standAt i2.pos
    let v ← foldedSetIterable i2 cenv v
    let it ← holding [v] (pyIter v)
    let _ ← runOwn (.compStart (.ListComp elt [⟨target, iter, ifs, 0⟩, ⟨t2, i2, ifs2, 0⟩] scope pos) 1 it acc cenv) cenv
    k) := fun k => by
    unfold emit2
    simp only [LawfulMonad.bind_assoc, LawfulMonad.pure_bind]
  show _ = (standAt iter.pos >>= fun _ => pyNext it >>= fun r => match r with
    | none => pure (.done .next)
    | some v => letOwnedTupleGo target it v >>= fun _ => assign target cenv v >>= fun _ => testsOf ifs cenv >>= fun ok =>
      if ok = true then emit2 elt target iter ifs t2 i2 ifs2 scope pos cenv acc >>= fun _ => again (.compLoop (.ListComp elt [⟨target, iter, ifs, 0⟩, ⟨t2, i2, ifs2, 0⟩] scope pos) 0 it acc cenv)
      else again (.compLoop (.ListComp elt [⟨target, iter, ifs, 0⟩, ⟨t2, i2, ifs2, 0⟩] scope pos) 0 it acc cenv))
  rw [e]
  rfl
theorem fthrice (one two : List Row) (h1 : one.length ≤ 100) (h2 : two.length ≤ 100) (k1 : ∀ r ∈ one, rowOk r = true) (k2 : ∀ r ∈ two, rowOk r = true) : FnD 143 3 [.list (one.map rowOf), .list (two.map rowOf)] (.list ((thriceP one two).map rowOf)) := by
  constructor
  intro w loose mean mg mb dp un gd cn cs a ccd cl outer A₀ base h₀ L m s G vs Q E B X T hk hd1 hu F htk hl dvs k
  apply daCons (vs := vs) dvs; intro v1 vs_3 d1 r
  apply daCons (vs := vs_3) r; intro v2 vs_4 d2 r
  apply daNil (vs := vs_4) r
  refine wpAny_call ?_
  refine enterC (K := hd.heap_39 w.params) (p := hd.view_39) B F X T rfl rfl hk (by rfl) (by rfl) (show dp < _ from Nat.lt_of_le_of_lt (Nat.le_add_right dp _) hd1) (BindsTo.of_eq rfl) (by rfl) (by decide) (fun L' h₁ tk cells hle F' N' CA B' X' T' => ?_) (by rfl) (by rfl) (by rfl)
  have CA' : CellsAre (fun y => if y = Str.ofString "two" then some v2 else none) [(Str.ofString "two", L' + 1)] cells := CA
  obtain ⟨o1, rfl, e1⟩ := CA'.one
  have en := FP.enter (lv := [(Str.ofString "one", .list (one.map rowOf))]) (nms := [(Str.ofString "two", L' + 1)]) (cv := [(Str.ofString "two", L' + 1, .list (two.map rowOf))]) F' hl (fun x d e => ?_) N' (fun x c hx => ?_) (fun x c x' hx hx' => ?_) (fun x c d e => ?_)
  · refine Run.run (s₀ := s) ?_ h₁ tk G (Nat.lt_of_lt_of_le htk hle) en.1 en.2
    clear en CA CA' F' N' d1 d2
    refine Run.ret (d := .list (((one.map rowOf).filter (notInD two)).flatMap (fun d => List.replicate (thrN two d) d))) FP.frame ?_ ?_
    · refine Ev.compE (h₀ := s.heap) (emit := emit2 _ _ _ _ _ _ _ _ _) (fun d => [(Str.ofString "row", d)]) (notInD two) (fun d => List.replicate (thrN two d) d) FP.frame rfl (by rfl) (by decide) (by rfl) (by decide) (by (repeat' first | exact Ev.cInt | exact Ev.cStr | exact Ev.cNone | exact Ev.cBool | exact Ev.loc (CP.at (by repeat (first | with_reducible exact List.mem_cons_self | with_reducible refine List.mem_cons_of_mem _ ?_))) | exact Ev.loc (FP.at (by repeat (first | with_reducible exact List.mem_cons_self | with_reducible refine List.mem_cons_of_mem _ ?_))) | exact Ev.cap (fun _ _ x => x.1) (by repeat (first | with_reducible exact List.mem_cons_self | with_reducible refine List.mem_cons_of_mem _ ?_)) | exact Ev.cap (fun _ _ x => x) (by repeat (first | with_reducible exact List.mem_cons_self | with_reducible refine List.mem_cons_of_mem _ ?_)) | exact Ev.cap (fun _ _ x => x.1.1) (by repeat (first | with_reducible exact List.mem_cons_self | with_reducible refine List.mem_cons_of_mem _ ?_)) | refine Ev.list (by first | exact FP.frame | exact CP.frame FP.frame | exact CP.frame (CP.frame FP.frame)) ?_ | exact EvL.nil | refine EvL.cons (by first | exact FP.frame | exact CP.frame FP.frame | exact CP.frame (CP.frame FP.frame)) ?_ ?_)) ?_ (fun _ _ _ => turn2 _ _ _ _ _ _ _ _ _ _ _ _) ?_ ?_ ?_
      · rw [thrice_eq, List.length_map]
        have := thrice_len two one
        rw [sizeLine_eq]; omega
      · intro C d _
        exact asg_name rfl (by kernel_rfl!) (by kernel_rfl!)
      · intro C d hm
        obtain ⟨x, hx, rfl⟩ := List.mem_map.mp hm
        exact EvTs.one (EvT.cmp (by first | exact FP.frame | exact CP.frame FP.frame | exact CP.frame (CP.frame FP.frame)) (by (repeat' first | exact Ev.cInt | exact Ev.cStr | exact Ev.cNone | exact Ev.cBool | exact Ev.loc (CP.at (by repeat (first | with_reducible exact List.mem_cons_self | with_reducible refine List.mem_cons_of_mem _ ?_))) | exact Ev.loc (FP.at (by repeat (first | with_reducible exact List.mem_cons_self | with_reducible refine List.mem_cons_of_mem _ ?_))) | exact Ev.cap (fun _ _ x => x.1) (by repeat (first | with_reducible exact List.mem_cons_self | with_reducible refine List.mem_cons_of_mem _ ?_)) | exact Ev.cap (fun _ _ x => x) (by repeat (first | with_reducible exact List.mem_cons_self | with_reducible refine List.mem_cons_of_mem _ ?_)) | exact Ev.cap (fun _ _ x => x.1.1) (by repeat (first | with_reducible exact List.mem_cons_self | with_reducible refine List.mem_cons_of_mem _ ?_)) | refine Ev.list (by first | exact FP.frame | exact CP.frame FP.frame | exact CP.frame (CP.frame FP.frame)) ?_ | exact EvL.nil | refine EvL.cons (by first | exact FP.frame | exact CP.frame FP.frame | exact CP.frame (CP.frame FP.frame)) ?_ ?_)) (by (repeat' first | exact Ev.cInt | exact Ev.cStr | exact Ev.cNone | exact Ev.cBool | exact Ev.loc (CP.at (by repeat (first | with_reducible exact List.mem_cons_self | with_reducible refine List.mem_cons_of_mem _ ?_))) | exact Ev.loc (FP.at (by repeat (first | with_reducible exact List.mem_cons_self | with_reducible refine List.mem_cons_of_mem _ ?_))) | exact Ev.cap (fun _ _ x => x.1) (by repeat (first | with_reducible exact List.mem_cons_self | with_reducible refine List.mem_cons_of_mem _ ?_)) | exact Ev.cap (fun _ _ x => x) (by repeat (first | with_reducible exact List.mem_cons_self | with_reducible refine List.mem_cons_of_mem _ ?_)) | exact Ev.cap (fun _ _ x => x.1.1) (by repeat (first | with_reducible exact List.mem_cons_self | with_reducible refine List.mem_cons_of_mem _ ?_)) | refine Ev.list (by first | exact FP.frame | exact CP.frame FP.frame | exact CP.frame (CP.frame FP.frame)) ?_ | exact EvL.nil | refine EvL.cons (by first | exact FP.frame | exact CP.frame FP.frame | exact CP.frame (CP.frame FP.frame)) ?_ ?_)) (notIn_D (rowOf_ok (k1 x hx)) (fun d hd => by obtain ⟨y, hy, rfl⟩ := List.mem_map.mp hd; exact rowOf_ok (k2 y hy)) (by show un + 3 + 64 < cLine; omega)))
      · intro C D d g Gg hm _ hDL hDC hCL hCg hDg hPg
        obtain ⟨x, _, rfl⟩ := List.mem_map.mp hm
        refine emW_range (K := hd.heap_39 w.params) (k := thrN two (rowOf x)) FP.frame rfl X' T' (by rfl) hDL hDC hCL hCg hDg hPg rfl ?_ ?_ ?_ ?_ (by kernel_rfl!) (by kernel_rfl!) (by kernel_rfl!) (by kernel_rfl!) (by kernel_rfl!) (by kernel_rfl!) (by rfl) (by rfl) (fun _ => by rfl)
        · unfold thrN; split <;> omega
        · have hdl : (two.map rowOf).drop ((two.map rowOf).length - 1) = (two.drop (two.length - 1)).map rowOf := by rw [List.length_map, List.map_drop]
          have hp := pick_last (ds := two.map rowOf) 1 (Nat.le_refl _)
          rw [hdl] at hp
          have hN : ((thrN two (rowOf x) : Nat) : Int) = if lastLt two x = true then 3 else 1 := by
            unfold thrN
            rw [toRow_of]
            split <;> rfl
          rw [hN]
          refine Ev.ite (c := lastLt two x) (by first | exact FP.frame | exact CP.frame FP.frame | exact CP.frame (CP.frame FP.frame)) (EvT.cmp (by first | exact FP.frame | exact CP.frame FP.frame | exact CP.frame (CP.frame FP.frame)) (Ev.slice (by first | exact FP.frame | exact CP.frame FP.frame | exact CP.frame (CP.frame FP.frame)) (by (repeat' first | exact Ev.cInt | exact Ev.cStr | exact Ev.cNone | exact Ev.cBool | exact Ev.loc (CP.at (by repeat (first | with_reducible exact List.mem_cons_self | with_reducible refine List.mem_cons_of_mem _ ?_))) | exact Ev.loc (FP.at (by repeat (first | with_reducible exact List.mem_cons_self | with_reducible refine List.mem_cons_of_mem _ ?_))) | exact Ev.cap (fun _ _ x => x.1) (by repeat (first | with_reducible exact List.mem_cons_self | with_reducible refine List.mem_cons_of_mem _ ?_)) | exact Ev.cap (fun _ _ x => x) (by repeat (first | with_reducible exact List.mem_cons_self | with_reducible refine List.mem_cons_of_mem _ ?_)) | exact Ev.cap (fun _ _ x => x.1.1) (by repeat (first | with_reducible exact List.mem_cons_self | with_reducible refine List.mem_cons_of_mem _ ?_)) | refine Ev.list (by first | exact FP.frame | exact CP.frame FP.frame | exact CP.frame (CP.frame FP.frame)) ?_ | exact EvL.nil | refine EvL.cons (by first | exact FP.frame | exact CP.frame FP.frame | exact CP.frame (CP.frame FP.frame)) ?_ ?_)) (.at (Ev.neg (by first | exact FP.frame | exact CP.frame FP.frame | exact CP.frame (CP.frame FP.frame)) Ev.cInt)) .no (by rw [List.length_map, sizeLine_eq]; omega) hp) (by (repeat' first | exact Ev.cInt | exact Ev.cStr | exact Ev.cNone | exact Ev.cBool | exact Ev.loc (CP.at (by repeat (first | with_reducible exact List.mem_cons_self | with_reducible refine List.mem_cons_of_mem _ ?_))) | exact Ev.loc (FP.at (by repeat (first | with_reducible exact List.mem_cons_self | with_reducible refine List.mem_cons_of_mem _ ?_))) | exact Ev.cap (fun _ _ x => x.1) (by repeat (first | with_reducible exact List.mem_cons_self | with_reducible refine List.mem_cons_of_mem _ ?_)) | exact Ev.cap (fun _ _ x => x) (by repeat (first | with_reducible exact List.mem_cons_self | with_reducible refine List.mem_cons_of_mem _ ?_)) | exact Ev.cap (fun _ _ x => x.1.1) (by repeat (first | with_reducible exact List.mem_cons_self | with_reducible refine List.mem_cons_of_mem _ ?_)) | refine Ev.list (by first | exact FP.frame | exact CP.frame FP.frame | exact CP.frame (CP.frame FP.frame)) ?_ | exact EvL.nil | refine EvL.cons (by first | exact FP.frame | exact CP.frame FP.frame | exact CP.frame (CP.frame FP.frame)) ?_ ?_)) (lt_lastD (by show un + 3 + 10 < cLine; omega))) (fun h => ?_) (fun h => ?_)
          · rw [if_pos h]; exact Ev.cInt
          · rw [if_neg (by simp [h])]; exact Ev.cInt
        · (repeat' first | exact Ev.cInt | exact Ev.cStr | exact Ev.cNone | exact Ev.cBool | exact Ev.loc (CP.at (by repeat (first | with_reducible exact List.mem_cons_self | with_reducible refine List.mem_cons_of_mem _ ?_))) | exact Ev.loc (FP.at (by repeat (first | with_reducible exact List.mem_cons_self | with_reducible refine List.mem_cons_of_mem _ ?_))) | exact Ev.cap (fun _ _ x => x.1) (by repeat (first | with_reducible exact List.mem_cons_self | with_reducible refine List.mem_cons_of_mem _ ?_)) | exact Ev.cap (fun _ _ x => x) (by repeat (first | with_reducible exact List.mem_cons_self | with_reducible refine List.mem_cons_of_mem _ ?_)) | exact Ev.cap (fun _ _ x => x.1.1) (by repeat (first | with_reducible exact List.mem_cons_self | with_reducible refine List.mem_cons_of_mem _ ?_)) | refine Ev.list (by first | exact FP.frame | exact CP.frame FP.frame | exact CP.frame (CP.frame FP.frame)) ?_ | exact EvL.nil | refine EvL.cons (by first | exact FP.frame | exact CP.frame FP.frame | exact CP.frame (CP.frame FP.frame)) ?_ ?_)
        · simp; decide +kernel
    · intro v h' tk' G' htk' hP hl' dv
      obtain ⟨m', F'', _⟩ := hP.loc
      refine k v h' tk' G' F''.keep hP.sub hP.new hl' ?_
      rw [thrice_eq] at dv
      exact dv
  · rw [List.mem_singleton] at e
    cases e
    exact ⟨v1, rfl, d1⟩
  · rw [List.mem_singleton] at hx
    cases hx; exact ⟨o1, _, .head _, e1⟩
  · rw [List.mem_singleton] at hx hx'
    cases hx; cases hx'; rfl
  · rw [List.mem_singleton] at e
    cases e
    exact ⟨.head _, o1, v2, .head _, by rw [e1]; rfl, d2⟩
end Mine
end

section
open PySem PySem.W PyProof.Rows PySem.Calls PySem.SeqAt
set_option Elab.async false
set_option maxRecDepth 100000
set_option linter.all false
set_option maxHeartbeats 1000000
set_option pp.deepTerms.threshold 8
set_option pp.deepTerms false
set_option pp.proofs.threshold 2
namespace Mine
section
variable {prog : Program} {w : World} {A : Around} {L : Addr}
theorem lt_sD {a b : Str} : CmpD prog w A L .Lt (.str a) (.str b) (slt a b) := ⟨fun s G m v₁ v₂ Q E _ l _ _ d₁ d₂ k => (by
  (first | (apply dInt (v := v₁) d₁; intro _) | (apply dStr (v := v₁) d₁; intro _) | apply dBool (v := v₁) d₁ | apply dNone (v := v₁) d₁); (first | (apply dInt (v := v₂) d₂; intro _) | (apply dStr (v := v₂) d₂; intro _) | apply dBool (v := v₂) d₂ | apply dNone (v := v₂) d₂); exact (cmp_str_lt (A := A) (s := s) a b _ _) prog w E Q (k _ _ _ (.rfl' l)))⟩
theorem gt_sD {a b : Str} : CmpD prog w A L .Gt (.str a) (.str b) (slt b a) := ⟨fun s G m v₁ v₂ Q E _ l _ _ d₁ d₂ k => (by
  (first | (apply dInt (v := v₁) d₁; intro _) | (apply dStr (v := v₁) d₁; intro _) | apply dBool (v := v₁) d₁ | apply dNone (v := v₁) d₁); (first | (apply dInt (v := v₂) d₂; intro _) | (apply dStr (v := v₂) d₂; intro _) | apply dBool (v := v₂) d₂ | apply dNone (v := v₂) d₂); exact (cmp_str_gt (A := A) (s := s) a b _ _) prog w E Q (k _ _ _ (.rfl' l)))⟩
theorem sub_bD {p q : Bool} : BinD prog w A L .Sub (.bool p) (.bool q) (.int (b2i p - b2i q)) := ⟨fun s G m v₁ v₂ Q E _ l _ _ d₁ d₂ k => (by
  (first | (apply dInt (v := v₁) d₁; intro _) | (apply dStr (v := v₁) d₁; intro _) | apply dBool (v := v₁) d₁ | apply dNone (v := v₁) d₁); (first | (apply dInt (v := v₂) d₂; intro _) | (apply dStr (v := v₂) d₂; intro _) | apply dBool (v := v₂) d₂ | apply dNone (v := v₂) d₂); exact sub_bool (k _ _ _ _ (.rfl' l) (.int _ _)))⟩
end
theorem f3way (x y : Str) : FnD 107 1 [.str x, .str y] (.int (b2i (slt y x) - b2i (slt x y))) := by
  constructor
  intro w loose mean mg mb dp un gd cn cs a ccd cl outer A₀ base h₀ L m s G vs Q E B X T hk hd1 hu F htk hl dvs k
  apply daCons (vs := vs) dvs; intro v1 vs_1 d1 r
  apply daCons (vs := vs_1) r; intro v2 vs_2 d2 r
  apply daNil (vs := vs_2) r
  refine wpAny_call ?_
  refine enterC (K := hd.heap_39 w.params) (p := hd.view_39) B F X T rfl rfl hk (by rfl) (by rfl) (show dp < _ from Nat.lt_of_le_of_lt (Nat.le_add_right dp _) hd1) (BindsTo.of_eq rfl) (by rfl) (by decide) (fun L' h₁ tk cells hle F' N' CA B' X' T' => ?_) (by rfl) (by rfl) (by rfl)
  have en := FP.enter (lv := [(Str.ofString "x", .str x), (Str.ofString "y", .str y)]) (nms := []) (cv := []) F' hl (fun z d e => ?_) N' (fun x c hx => nomatch hx) (fun x c x' hx => nomatch hx) (fun x c d e => nomatch e)
  · refine Run.run (s₀ := s) ?_ h₁ tk G (Nat.lt_of_lt_of_le htk hle) en.1 en.2
    clear en CA F' N' d1 d2
    refine Run.ret FP.frame (Ev.bin (by first | exact FP.frame | exact CP.frame FP.frame | exact CP.frame (CP.frame FP.frame)) (Ev.cmp (by first | exact FP.frame | exact CP.frame FP.frame | exact CP.frame (CP.frame FP.frame)) (by (repeat' first | exact Ev.cInt | exact Ev.cStr | exact Ev.cNone | exact Ev.cBool | exact Ev.loc (CP.at (by repeat (first | with_reducible exact List.mem_cons_self | with_reducible refine List.mem_cons_of_mem _ ?_))) | exact Ev.loc (FP.at (by repeat (first | with_reducible exact List.mem_cons_self | with_reducible refine List.mem_cons_of_mem _ ?_))))) (by (repeat' first | exact Ev.cInt | exact Ev.cStr | exact Ev.cNone | exact Ev.cBool | exact Ev.loc (CP.at (by repeat (first | with_reducible exact List.mem_cons_self | with_reducible refine List.mem_cons_of_mem _ ?_))) | exact Ev.loc (FP.at (by repeat (first | with_reducible exact List.mem_cons_self | with_reducible refine List.mem_cons_of_mem _ ?_))))) gt_sD) (Ev.cmp (by first | exact FP.frame | exact CP.frame FP.frame | exact CP.frame (CP.frame FP.frame)) (by (repeat' first | exact Ev.cInt | exact Ev.cStr | exact Ev.cNone | exact Ev.cBool | exact Ev.loc (CP.at (by repeat (first | with_reducible exact List.mem_cons_self | with_reducible refine List.mem_cons_of_mem _ ?_))) | exact Ev.loc (FP.at (by repeat (first | with_reducible exact List.mem_cons_self | with_reducible refine List.mem_cons_of_mem _ ?_))))) (by (repeat' first | exact Ev.cInt | exact Ev.cStr | exact Ev.cNone | exact Ev.cBool | exact Ev.loc (CP.at (by repeat (first | with_reducible exact List.mem_cons_self | with_reducible refine List.mem_cons_of_mem _ ?_))) | exact Ev.loc (FP.at (by repeat (first | with_reducible exact List.mem_cons_self | with_reducible refine List.mem_cons_of_mem _ ?_))))) lt_sD) sub_bD) ?_
    intro v h' tk' G' htk' hP hl' dv
    obtain ⟨m', F'', _⟩ := hP.loc
    exact k v h' tk' G' F''.keep hP.sub hP.new hl' dv
  · simp only [List.mem_cons, List.not_mem_nil, or_false, Prod.mk.injEq] at e
    rcases e with ⟨q1, q2⟩ | ⟨q1, q2⟩
    · subst q1; subst q2; exact ⟨v1, rfl, d1⟩
    · subst q1; subst q2; exact ⟨v2, rfl, d2⟩
end Mine
end

section
open PySem PySem.W PyProof.Rows PySem.Calls
set_option Elab.async false
set_option maxRecDepth 100000
set_option linter.all false
set_option maxHeartbeats 1000000
namespace Mine
section
variable {prog : Program} {w : World} {A : Around} {env : Env}
theorem bind_seq (hp : (env.scope.kind == .class || (env.scope.kind == .module && env.locals != env.globals)) = false) : ∀ (xs : List Str) (vs : List Value) (s : Shared) (m : Str → Option Value) (Q : Unit → Shared → Prop) (E : Value → Shared → Prop),
    xs.length = vs.length → (∀ x ∈ xs, env.kindOf x = some .local) → xs.Nodup → s.heap.Ns env.locals m →
    (∀ h' tk m', (∀ b o, b ≠ env.locals → s.heap.get? b = some o → h'.get? b = some o) → h'.Ns env.locals m' → (∀ x v, (x, v) ∈ xs.zip vs → m' x = some v) → (∀ x, x ∉ xs → m' x = m x) → Q () { s with heap := h', toks := tk }) →
    wpAny (model prog w) A (assignInOrder (xs.map fun n => bindName env n) vs) Q E s
  | [], vs, s, m, Q, E, hl, _, _, n, k => by
    refine assignInOrder_nil (k s.heap s.toks m (fun _ _ _ e => e) n (fun x v e => by simp at e) fun _ _ => rfl)
  | x :: xs, [], s, m, Q, E, hl, _, _, n, k => by simp at hl
  | x :: xs, v :: vs, s, m, Q, E, hl, hk, nd, n, k => by
    have hnd : x ∉ xs ∧ xs.Nodup := by simpa using nd
    refine assignInOrder_cons (bindName_ (wpAny_storeName_local (hk _ (.head _)) n (fun h' hn hs => ?_) hp))
    refine bind_seq hp xs vs _ _ Q E (by simpa using hl) (fun q hq => hk q (.tail _ hq)) hnd.2 hn fun h'' tk m' kp hn' bd rest => ?_
    refine k h'' tk m' (fun b o hb e => kp b o hb (hs.extBut b o hb e)) hn' (fun y v' e => ?_) fun y hy => ?_
    · rcases List.mem_cons.mp e with q | q
      · cases q
        rw [rest _ hnd.1]; simp
      · exact bd y v' q
    · have hy' : y ≠ x ∧ y ∉ xs := by simpa using hy
      rw [rest _ hy'.2]
      simp [hy'.1]
theorem zip_rev {α β : Type} (xs : List α) (ys : List β) (h : xs.length = ys.length) : xs.reverse.zip ys.reverse = (xs.zip ys).reverse := by
  induction xs generalizing ys with
  | nil => simp
  | cons x xs ih =>
    cases ys with
    | nil => simp at h
    | cons y ys =>
      have h' : xs.length = ys.length := by simpa using h
      rw [List.reverse_cons, List.reverse_cons, List.zip_append (by simpa using h'), ih ys h']
      simp
/-- names = a tuple's display -/
theorem asg_swap {elts es : List PySem.Expr} {k k2 : Nat} {tpos p2 pos : Pos} {names : List Str} {s : Shared} {Q : Flow → Shared → Prop} {E : Value → Shared → Prop} (hh : A.handled = none)
    (hp : (env.scope.kind == .class || (env.scope.kind == .module && env.locals != env.globals)) = false) (hk : ∀ x ∈ names, env.kindOf x = some .local) (nd : names.Nodup)
    (h : wpAny (model prog w) A (spliced (backTo p2 (starEach es env))) (fun vs s₁ => vs.length = names.length ∧ vs.length ≤ sizeLine ∧ ∃ m, s₁.heap.Ns env.locals m ∧
      ∀ h' tk m', (∀ b o, b ≠ env.locals → s₁.heap.get? b = some o → h'.get? b = some o) → h'.Ns env.locals m' → (∀ x v, (x, v) ∈ names.zip vs → m' x = some v) → (∀ x, x ∉ names → m' x = m x) → Q .next { s₁ with heap := h', toks := tk }) E s)
    (hs : swapsWithSole [.Tuple elts k tpos] (.Tuple es k2 p2) pos.line env = pure false := by rfl)
    (hw : swappedStores [.Tuple elts k tpos] (.Tuple es k2 p2) env = pure (some names) := by rfl) :
    wpAny (model prog w) A (exec (.Assign [.Tuple elts k tpos] (.Tuple es k2 p2) pos) env) Q E s := by
  refine Assign_Tuple_swapped (names := names) (wpAny_Tuple (wpAny_mono h (fun vs s₁ ⟨hlen, hsz, m, nn, kk⟩ => ⟨hsz, ?_⟩) fun _ _ e => e)) hs hw
  try dsimp only
  have ht : IsTup (s₁.heap.push { cls := .type "tuple", data := .seq vs.toArray }) s₁.heap.objs.size vs.toArray := ⟨_, Heap.get?_push_size _ rfl, rfl, _, rfl⟩
  have hsz' : names.length = vs.toArray.size := by rw [List.size_toArray, hlen]
  rw [hsz']
  refine unpackItems_tuple (s := { s₁ with heap := s₁.heap.push { cls := .type "tuple", data := .seq vs.toArray } }) hh ht fun h₂ he₂ => ?_
  dsimp only at he₂ ⊢
  have k₂ : ∀ b o, s₁.heap.get? b = some o → h₂.get? b = some o := fun b o e => he₂ b o (fun q => by
    have := Heap.lt_size e
    rw [q, Heap.size_push] at this
    exact absurd this (Nat.not_lt.mpr (Nat.le_succ _))) (Heap.get?_push_of_some _ e)
  have ndr : names.reverse.Nodup := (List.pairwise_reverse.mpr (nd.imp fun h => Ne.symm h))
  refine bind_seq hp names.reverse vs.reverse { s₁ with heap := h₂ } m _ _ (by rw [List.length_reverse, List.length_reverse, hlen]) (fun x hx => hk x (List.mem_reverse.mp hx)) ndr (nn.at' fun o e => k₂ _ _ e) fun h₃ tk₃ m₃ kp₃ n₃ b₃ r₃ => ?_
  exact kk h₃ tk₃ m₃ (fun b o hb e => kp₃ b o hb (k₂ b o e)) n₃ (fun x v hx => b₃ x v (by rw [zip_rev _ _ hlen.symm]; exact List.mem_reverse.mpr hx)) fun x hx => r₃ x fun q => hx (List.mem_reverse.mp q)
end
end Mine
end

section
open PySem PySem.W PyProof.Rows PySem.Calls
set_option Elab.async false
set_option maxRecDepth 100000
set_option linter.all false
set_option maxHeartbeats 1000000
namespace Mine
section
variable {prog : Program} {w : World} {A : Around} {h₀ : Heap} {L : Addr} {env : Env} {P : Ldg → Heap → Prop} {K : Frag} {p : Program} {loose : List Str} {mean : ExcName → Option Value} {mg mb : Str → Option Value}
/-- str(int) -/
theorem Ev.strInt (st : FrameOk h₀ L P) {e : PySem.Expr} {np cp : Pos} {i : Int} (XK : K.In h₀) (TT : Top p loose mean mg mb h₀) (h : Ev prog w A L env P e (.int i)) (hi : i.natAbs.log2 < 1920)
    (hns : nsIn K mainGlobals (Str.ofString "str") = some none := by rfl) (hkd : env.scope.kind = .function := by kernel_rfl!) (hr : env.kindOf (Str.ofString "str") = some .globalImplicit := by kernel_rfl!) (hg : env.globals = mainGlobals := by kernel_rfl!) (hb : env.builtins = builtinsNs := by kernel_rfl!)
    (hcall : eval (.Call (.Name (Str.ofString "str") np) [e] [] cp) env = (do callWith cp (← eval (.Name (Str.ofString "str") np) env) [] (backTo cp (starEach [e] env)) (backToKw cp (keywordEach [] env))) := by rfl)
    (hes : starEach [e] env = (false, eval e env) :: starEach [] env := by rfl) : Ev prog w A L env P (.Call (.Name (Str.ofString "str") np) [e] [] cp) (.str (toString i)) := Ev.of fun s G Q E hp hP hl k => by
  obtain ⟨mL, F⟩ := st.fr _ _ hP
  refine Call_ (builtin_name F.keep XK TT hns (v := .type "str") (by decide +kernel) (by decide +kernel) ?_ hkd hr hg hb (by decide +kernel)) hcall
  refine PyProof.Rows.callWith_type1 ((EvL.cons st h EvL.nil hes).run cp s G _ _ hp hP hl fun vs h' tk G' hp' y dvs => ?_) hes (by rfl)
  apply daCons (vs := vs) dvs; intro v vs_1 dv r
  apply daNil (vs := vs_1) r
  apply dInt (v := v) dv; intro t
  exact PySem.P.str_of_int hi (k _ h' _ G' y (.str _ _))
/-- a display of three pairs, one asked for at once -/
theorem Ev.dict3 (st : FrameOk h₀ L P) {k1 k2 k3 x : Str} {c1 c2 c3 : Nat} {q1 q2 q3 dpos spos : Pos} {e1 e2 e3 idx : PySem.Expr} {d1 d2 d3 d : Dat} (h1 : Ev prog w A L env P e1 d1) (h2 : Ev prog w A L env P e2 d2) (h3 : Ev prog w A L env P e3 d3) (hi : Ev prog w A L env P idx (.str x))
    (n12 : k1 ≠ k2) (n13 : k1 ≠ k3) (n23 : k2 ≠ k3) (hx : (x = k1 ∧ d = d1) ∨ (x = k2 ∧ d = d2) ∨ (x = k3 ∧ d = d3))
    (hsub : ∀ l u, subscripted idx false (.ref l) (.str x u) = operate [.ref l, .str x u] (getItem (.ref l) (.str x u)) := by intro _ _; with_unfolding_all rfl) :
    Ev prog w A L env P (.Subscript (.Dict [some (.Constant (.str k1) c1 q1), some (.Constant (.str k2) c2 q2), some (.Constant (.str k3) c3 q3)] [e1, e2, e3] dpos) idx spos) d := Ev.of fun s G Q E hp hP hl k => by
  refine Subscript_ ?_
  refine wpAny_Dict_pairs (knd := strKind prog w) (pairs := [(eval (.Constant (.str k1) c1 q1) env, do let x ← eval e1 env; standAt dpos; pure x), (eval (.Constant (.str k2) c2 q2) env, do let x ← eval e2 env; standAt dpos; pure x), (eval (.Constant (.str k3) c3 q3) env, do let x ← eval e3 env; standAt dpos; pure x)]) (by rfl) (by simp) (Nat.le_of_ble_eq_true rfl) ?_
  have hD0 : s.heap.get? s.heap.objs.size = none := Heap.get?_none_of_le (Nat.le_refl _)
  have hDH : (s.heap.push { cls := .type "dict", data := .dict #[] }).DictOf (strKind prog w) s.heap.objs.size [] := Heap.DictOf.new _
  have hk0 : Kp s.heap (s.heap.push { cls := .type "dict", data := .dict #[] }) := fun b o e => Heap.get?_push_of_some _ e
  generalize s.heap.push { cls := .type "dict", data := .dict #[] } = H at hDH hk0 ⊢
  generalize s.heap.objs.size = D at hDH hD0 ⊢
  have x0 : Ext L G s.heap G H := Ext.of_kp hl hk0
  have hP0 := st.stab _ _ _ _ hP x0
  obtain ⟨mL, nL⟩ := st.ns _ _ hP
  have hDL : D ≠ L := ns_ne nL hD0
  have alD : ∀ b ∈ [D], ∃ o, H.get? b = some o := fun b hb => by
    obtain ⟨o, _, _, e, _⟩ := hDH
    rw [List.mem_singleton] at hb
    exact ⟨o, hb ▸ e⟩
  refine evalPairs_cons (wpAny_Constant_str ?_)
  refine wpAny_bind (h1.run _ G _ _ (Nat.lt_of_lt_of_le hp (Nat.le_add_right _ _)) hP0 x0.led fun v1 ha tka Ga hpa xa dva => wpAny_bind (wpAny_standAt (wpAny_pure ?_)))
  have hPa := st.stab _ _ _ _ hP0 xa
  refine evalPairs_cons (wpAny_Constant_str ?_)
  refine wpAny_bind (h2.run _ Ga _ _ (Nat.lt_of_lt_of_le hpa (Nat.le_add_right _ _)) hPa xa.led fun v2 hb tkb Gb hpb xb dvb => wpAny_bind (wpAny_standAt (wpAny_pure ?_)))
  have hPb := st.stab _ _ _ _ hPa xb
  refine evalPairs_cons (wpAny_Constant_str ?_)
  refine wpAny_bind (h3.run _ Gb _ _ (Nat.lt_of_lt_of_le hpb (Nat.le_add_right _ _)) hPb xb.led fun v3 hc tkc Gc hpc xc dvc => wpAny_bind (wpAny_standAt (wpAny_pure ?_)))
  refine evalPairs_nil ?_
  dsimp only
  have xabc := (xa.trans xb).trans xc
  have yw := xabc.toW alD
  have offD : ∀ p ∈ Gc, p.1 ≠ D := fun p hp q => by
    rcases yw.fresh p hp with a | ⟨_, _, a⟩
    · have := hl p a
      (first | exact noAt q this hD0 | exact noIs q this hD0 | exact (noAt q this hD0).elim | exact (noIs q this hD0).elim | (rw [q, hD0] at this; cases this))
    · exact a (q ▸ .head _)
  refine ⟨[(k1, v1), (k2, v2), (k3, v3)], ⟨by simp [PySem.strKind, Value.isStrOf], rfl, by simp [PySem.strKind, Value.isStrOf], rfl, by simp [PySem.strKind, Value.isStrOf], rfl, trivial⟩, hDH.at fun o e => xabc.kp _ _ hDL e, fun h' hm hs => ?_⟩
  have em : merged [] [(k1, v1), (k2, v2), (k3, v3)] = [(k1, v1), (k2, v2), (k3, v3)] := by
    simp [merged, stored, n12, n13, n23]
  rw [em] at hm
  have x' : Ext L G s.heap Gc h' := ExtW.base x0 (yw.trans (ExtW.chg xc.led (by simp [Ne.symm hDL]) (fun p hp => by simpa using offD p hp) fun b o hb e => hs.extBut b o (by simpa using hb) e)) (fun b hb => by rw [List.mem_singleton] at hb; exact hb ▸ hD0)
  have hP' := st.stab _ _ _ _ hP x'
  refine hi.run _ Gc _ _ (Nat.lt_of_lt_of_le hpc (Nat.le_add_right _ _)) hP' x'.led fun vi h₂ tk₂ G₂ hp₂ x₂ dvi => ?_
  obtain ⟨tx, rfl⟩ := iStr dvi
  have hm₂ : h₂.DictOf (strKind prog w) D [(k1, v1), (k2, v2), (k3, v3)] := hm.at fun o e => x₂.kp _ _ hDL e
  have fin : ∀ v, valueAt [(k1, v1), (k2, v2), (k3, v3)] x = some v → DatIn Gc v d → wpAny (model prog w) A (subscriptTail (.Dict [some (.Constant (.str k1) c1 q1), some (.Constant (.str k2) c2 q2), some (.Constant (.str k3) c3 q3)] [e1, e2, e3] dpos) idx (.ref D) (.str x tx)) Q E { s with heap := h₂, toks := tk₂ } := fun v hv dv =>
    tail_any (ops := [.ref D, .str x tx]) (s := { s with heap := h₂, toks := tk₂ }) hm₂.typeIs slot_dict_getitem.lookup (wpAny_getItem_of (k := x) (by simp [PySem.strKind, Value.isStrOf]) hm₂.mapOf hv (k v h₂ _ G₂ (x'.trans x₂) (dv.mono x₂.sub))) (hsub _ _)
  rcases hx with ⟨rfl, rfl⟩ | ⟨rfl, rfl⟩ | ⟨rfl, rfl⟩
  · exact fin v1 (by simp [valueAt]) ((dva.mono xb.sub).mono xc.sub)
  · exact fin v2 (by simp [valueAt, n12]) (dvb.mono xc.sub)
  · exact fin v3 (by simp [valueAt, n13, n23]) dvc
end
end Mine
end

section
open PySem PySem.W PyProof.Rows PySem.Calls PySem.SeqAt
set_option Elab.async false
set_option maxRecDepth 100000
set_option linter.all false
set_option maxHeartbeats 2000000
set_option pp.deepTerms.threshold 8
set_option pp.deepTerms false
set_option pp.proofs.threshold 2
namespace Mine
def turnP : List Row → List Row → Int
  | [], _ => 1
  | _ :: _, [] => -1
  | g :: _, n :: _ => b2i (slt n.1 g.1) - b2i (slt g.1 n.1)
def leftP (gs ns : List Row) : Bool := decide (turnP gs ns ≤ 0)
def rightP (gs ns : List Row) : Bool := decide (0 ≤ turnP gs ns)
def repRow (gs ns : List Row) : Dat :=
  .list [if leftP gs ns then .str ((gs.headD (Str.ofString "", Str.ofString "")).1) else .str ((ns.headD (Str.ofString "", Str.ofString "")).1),
    if leftP gs ns then .str ((gs.headD (Str.ofString "", Str.ofString "")).2) else .none,
    if rightP gs ns then .str ((ns.headD (Str.ofString "", Str.ofString "")).2) else .none]
theorem turn_range (gs ns : List Row) : turnP gs ns = -1 ∨ turnP gs ns = 0 ∨ turnP gs ns = 1 := by
  unfold turnP
  split
  · simp
  · simp
  · unfold b2i
    split <;> split <;> simp
theorem left_has {gs ns : List Row} (h : leftP gs ns = true) : ∃ g gs', gs = g :: gs' := by
  cases gs with
  | nil => unfold leftP turnP at h; simp at h
  | cons g gs => exact ⟨g, gs, rfl⟩
theorem right_has {gs ns : List Row} (h : rightP gs ns = true) (hne : gs ≠ [] ∨ ns ≠ []) : ∃ n ns', ns = n :: ns' := by
  cases ns with
  | nil =>
    cases gs with
    | nil => simp at hne
    | cons g gs => unfold rightP turnP at h; simp at h
  | cons n ns => exact ⟨n, ns, rfl⟩
theorem left_or_right (gs ns : List Row) : leftP gs ns = true ∨ rightP gs ns = true := by
  unfold leftP rightP
  have := turn_range gs ns
  simp; omega
/-- what _law_report reckons, with enough turns -/
def reportN : Nat → List Row → List Row → List Dat
  | 0, _, _ => []
  | k + 1, gs, ns => if gs = [] ∧ ns = [] then [] else repRow gs ns :: reportN k (if leftP gs ns then gs.drop 1 else gs) (if rightP gs ns then ns.drop 1 else ns)
def reportP (gs ns : List Row) : List Dat := reportN (gs.length + ns.length) gs ns
theorem report_less {gs ns : List Row} (hne : gs ≠ [] ∨ ns ≠ []) : (if leftP gs ns then gs.drop 1 else gs).length + (if rightP gs ns then ns.drop 1 else ns).length < gs.length + ns.length := by
  rcases left_or_right gs ns with h | h
  · obtain ⟨g, gs', rfl⟩ := left_has h
    rw [if_pos h]
    split <;> simp <;> omega
  · obtain ⟨n, ns', rfl⟩ := right_has h hne
    rw [if_pos h]
    split <;> simp <;> omega
theorem reportN_any : ∀ (k l : Nat) (gs ns : List Row), gs.length + ns.length ≤ k → gs.length + ns.length ≤ l → reportN k gs ns = reportN l gs ns
  | 0, 0, _, _, _, _ => rfl
  | 0, l + 1, gs, ns, h, _ => by
    have : gs = [] ∧ ns = [] := by
      constructor
      · cases gs with
        | nil => rfl
        | cons => simp at h
      · cases ns with
        | nil => rfl
        | cons => simp at h
    rw [reportN, reportN, if_pos this]
  | k + 1, 0, gs, ns, _, h => by
    have : gs = [] ∧ ns = [] := by
      constructor
      · cases gs with
        | nil => rfl
        | cons => simp at h
      · cases ns with
        | nil => rfl
        | cons => simp at h
    rw [reportN, reportN, if_pos this]
  | k + 1, l + 1, gs, ns, h1, h2 => by
    rw [reportN, reportN]
    by_cases hq : gs = [] ∧ ns = []
    · rw [if_pos hq, if_pos hq]
    · rw [if_neg hq, if_neg hq]
      have hne : gs ≠ [] ∨ ns ≠ [] := by
        by_cases q : gs = []
        · exact .inr fun r => hq ⟨q, r⟩
        · exact .inl q
      have := report_less hne
      rw [reportN_any k l _ _ (by omega) (by omega)]
theorem reportP_step {gs ns : List Row} (hne : gs ≠ [] ∨ ns ≠ []) : reportP gs ns = repRow gs ns :: reportP (if leftP gs ns then gs.drop 1 else gs) (if rightP gs ns then ns.drop 1 else ns) := by
  have hl := report_less hne
  unfold reportP
  obtain ⟨k, hk⟩ : ∃ k, gs.length + ns.length = k + 1 := ⟨gs.length + ns.length - 1, by omega⟩
  rw [hk, reportN, if_neg (by rintro ⟨a, b⟩; rcases hne with h | h; exact h a; exact h b), reportN_any k _ _ _ (by omega) (Nat.le_refl _)]
theorem reportP_nil : reportP [] [] = [] := rfl
inductive ONm (F M : Addr) (nm : Str) (h : Heap) : Prop
  | mk (m : Str → Option Value) (n : h.Ns F m) (e : m nm = some (.ref M)) : ONm F M nm h
inductive OMm (M : Addr) (ms : List Dat) (G : Ldg) (h : Heap) : Prop
  | mk (vs : List Value) (n : Nat) (e : h.get? M = some (W.listOf (List.toArray vs) n)) (d : DatAll G vs ms) : OMm M ms G h
/-- a frame with one list of its own -/
structure OP (h₀ : Heap) (F M : Addr) (G₀ : Ldg) (nm : Str) (lv : List (Str × Dat)) (ms : List Dat) (G : Ldg) (h : Heap) : Prop where
  fp : FP h₀ F G₀ [] lv [] G h
  nm : ONm F M nm h
  mm : OMm M ms G h
  off : ∀ p ∈ G, p.1 ≠ M
  ne : M ≠ F
  no : h₀.get? M = none
section
variable {h₀ : Heap} {F M : Addr} {G₀ : Ldg} {nm : Str} {lv lv' : List (Str × Dat)} {ms : List Dat} {G G' : Ldg} {h h' : Heap}
theorem OP.frame : FrameOk h₀ F (OP h₀ F M G₀ nm lv ms) where
  stab := fun G h G' h' y x => by
    obtain ⟨m, n1, n2⟩ := y.nm
    obtain ⟨vs, n, e1, d1⟩ := y.mm
    refine ⟨FP.frame.stab _ _ _ _ y.fp x, ⟨m, x.ns m n1, n2⟩, ⟨vs, n, x.kp _ _ y.ne e1, d1.mono x.sub⟩, fun p hp => ?_, y.ne, y.no⟩
    rcases x.fresh p hp with q | ⟨q, _⟩
    · exact y.off p q
    · intro r; (first | exact noAt r q e1 | exact noIs r q e1 | exact (noAt r q e1).elim | exact (noIs r q e1).elim | (rw [r, e1] at q; cases q))
  fr := fun G h y => FP.frame.fr _ _ y.fp
  off := fun G h y => y.fp.off
theorem OP.at {x : Str} {d : Dat} (e : (x, d) ∈ lv) : ∀ G h, OP h₀ F M G₀ nm lv ms G h → ∃ m v, h.Ns F m ∧ m x = some v ∧ DatIn G v d := fun G h y => FP.at e G h y.fp
theorem FP.chg {cells : List (Str × Addr)} {cv : List (Str × Addr × Dat)} {m' : Str → Option Value} (y : FP h₀ F G₀ cells lv cv G h) (hl : Led G h) (n' : h'.Ns F m') (kp : ∀ b o, b ≠ F → h.get? b = some o → h'.get? b = some o) (b' : Binds G m' lv') : FP h₀ F G₀ cells lv' cv G h' ∧ Led G h' := by
  obtain ⟨m0, Fr0, b⟩ := y.loc
  refine ⟨⟨⟨m', ⟨n', fun b o e => kp b o (Nat.ne_of_lt (Nat.lt_of_lt_of_le (Heap.lt_size e) Fr0.above)) (Fr0.keep b o e), Fr0.above⟩, b'⟩, fun nx c hc => ?_, y.inj, fun nx c d' e => ?_, y.off, y.new, y.sub⟩, fun p hp => kp _ _ (y.off p hp) (hl p hp)⟩
  · obtain ⟨a1, a2, a3, u, a4⟩ := y.cls nx c hc
    exact ⟨a1, a2, a3, u, isCell_keep a4 fun o e => kp _ _ a1 e⟩
  · obtain ⟨hc, u, a4, du⟩ := y.cel nx c d' e
    exact ⟨hc, u, isCell_keep a4 fun o e => kp _ _ (y.cls nx c hc).1 e, du⟩
theorem OP.chg {m m' : Str → Option Value} (y : OP h₀ F M G₀ nm lv ms G h) (hl : Led G h) (n : h.Ns F m) (n' : h'.Ns F m') (kp : ∀ b o, b ≠ F → h.get? b = some o → h'.get? b = some o) (b' : Binds G m' lv') (hnm : m' nm = m nm) : OP h₀ F M G₀ nm lv' ms G h' ∧ Led G h' := by
  obtain ⟨f, l⟩ := y.fp.chg hl n' kp b'
  obtain ⟨m1, n1, n2⟩ := y.nm
  obtain ⟨vs, k, e1, d1⟩ := y.mm
  have := ns_uniq n1 n
  subst this
  exact ⟨⟨f, ⟨m', n', hnm.trans n2⟩, ⟨vs, k, kp _ _ y.ne e1, d1⟩, y.off, y.ne, y.no⟩, l⟩
theorem OP.less (y : OP h₀ F M G₀ nm lv ms G h) (hs : ∀ p ∈ lv', p ∈ lv) : OP h₀ F M G₀ nm lv' ms G h := ⟨y.fp.less hs fun _ q => q, y.nm, y.mm, y.off, y.ne, y.no⟩
end
end Mine
end

section
open PySem PySem.W PyProof.Rows PySem.Calls PySem.SeqAt
set_option Elab.async false
set_option maxRecDepth 100000
set_option linter.all false
set_option maxHeartbeats 2000000
set_option pp.deepTerms.threshold 8
set_option pp.deepTerms false
set_option pp.proofs.threshold 2
namespace Mine
section
variable {prog : Program} {w : World} {A : Around} {env : Env} {h₀ : Heap} {F M : Addr} {G₀ : Ldg} {nm : Str} {lv lv' : List (Str × Dat)} {ms : List Dat} {s₀ : Shared} {Q : Flow → Shared → Prop} {E : Value → Shared → Prop}
/-- x = e -/
theorem op_asg {x : Str} {p1 pos : Pos} {value : PySem.Expr} {rest : List Stmt} {d : Dat} (hloc : env.locals = F) (h : Ev prog w A F env (OP h₀ F M G₀ nm lv ms) value d) (k : Run prog w A env s₀ (OP h₀ F M G₀ nm ((x, d) :: lv) ms) rest Q E)
    (hs : swapsWith value (some (.Name x p1)) pos.line env = pure false := by rfl) (hx : env.kindOf x = some .local := by kernel_rfl!) (hnw : (lv.all fun p => p.1 != x) = true := by kernel_rfl!) (hnm : (nm == x) = false := by kernel_rfl!)
    (hp : (env.scope.kind == .class || (env.scope.kind == .module && env.locals != env.globals)) = false := by kernel_rfl!) : Run prog w A env s₀ (OP h₀ F M G₀ nm lv ms) (.Assign [.Name x p1] value pos :: rest) Q E := .mk fun h' tk G htk hP hl => by
  subst hloc
  refine wpAny_execs_cons (wpAny_Assign_Name (h.run _ G _ _ htk hP hl fun v h₂ tk₂ G₂ htk₂ z dv => ?_) hs)
  have hP₂ := OP.frame.stab _ _ _ _ hP z
  obtain ⟨m, Fr0, b⟩ := hP₂.fp.loc
  refine wpToks (s := { s₀ with heap := h₂, toks := tk₂ }) htk₂ (wpAny_storeName_local hx Fr0.ns (fun h₃ hn hs₃ htk₃ => ?_) hp)
  have hnm' : nm ≠ x := by simpa using hnm
  obtain ⟨y, l₃⟩ := hP₂.chg z.led Fr0.ns hn (fun b o hb e => hs₃.extBut b o hb e) (binds_cons b dv hnw) (by simp [hnm'])
  exact k.run h₃ _ G₂ htk₃ y l₃
/-- x, y = e, e a list of data -/
theorem op_asgT {xs : List (Str × Pos)} {kk : Nat} {tp pos : Pos} {value : PySem.Expr} {rest : List Stmt} {ds : List Dat} (hh : A.handled = none) (hloc : env.locals = F) (h : Ev prog w A F env (OP h₀ F M G₀ nm lv ms) value (.list ds)) (k : Run prog w A env s₀ (OP h₀ F M G₀ nm ((xs.map (·.1)).zip ds ++ lv) ms) rest Q E)
    (hl' : xs.length = ds.length) (hxk : ∀ p ∈ xs, env.kindOf p.1 = some .local) (nd : (xs.map (·.1)).Nodup) (hnw : (lv.all fun p => !(xs.map (·.1)).contains p.1) = true) (hnm : (xs.map (·.1)).contains nm = false)
    (hp : (env.scope.kind == .class || (env.scope.kind == .module && env.locals != env.globals)) = false := by kernel_rfl!)
    (hs : swapsWithSole [.Tuple (xs.map fun p => PySem.Expr.Name p.1 p.2) kk tp] value pos.line env = pure false := by rfl) (hw : swappedStores [.Tuple (xs.map fun p => PySem.Expr.Name p.1 p.2) kk tp] value env = pure none := by rfl)
    (hstar : (assignEach (xs.map fun p => PySem.Expr.Name p.1 p.2) env).findIdx? (·.1) = none := by rfl) (hlen : (assignEach (xs.map fun p => PySem.Expr.Name p.1 p.2) env).length = xs.length := by rfl) :
    Run prog w A env s₀ (OP h₀ F M G₀ nm lv ms) (.Assign [.Tuple (xs.map fun p => PySem.Expr.Name p.1 p.2) kk tp] value pos :: rest) Q E := .mk fun h' tk G htk hP hl => by
  refine wpAny_execs_cons (Assign_Tuple (h.run _ G _ _ htk hP hl fun v h₂ tk₂ G₂ htk₂ z dv => ?_) hs hw)
  have hP₂ := OP.frame.stab _ _ _ _ hP z
  obtain ⟨m, Fr0, b⟩ := hP₂.fp.loc
  refine wpToks (s := { s₀ with heap := h₂, toks := tk₂ }) htk₂ ((asg_tuple hh hloc hp hl' hxk nd hstar hlen).run _ G₂ m v _ _ z.led Fr0.ns hP₂.fp.off dv fun h₃ tk₃ m₃ kp₃ n₃ b₃ r₃ htk₃ => ?_)
  have hz : ((xs.map (·.1)).zip ds).map (·.1) = xs.map (·.1) := map_zip_fst (by simpa using hl')
  rw [hz] at r₃
  have hnm' : nm ∉ xs.map (·.1) := by
    intro q
    rw [List.contains_eq_mem, decide_eq_false_iff_not] at hnm
    exact hnm q
  have bb : Binds G₂ m₃ ((xs.map (·.1)).zip ds ++ lv) := fun x d e => by
    rcases List.mem_append.mp e with q | q
    · exact b₃ x d q
    · have hx : x ∉ xs.map (·.1) := by
        have := List.all_eq_true.mp hnw _ q
        intro r
        rw [Bool.not_eq_true', List.contains_eq_mem, decide_eq_false_iff_not] at this
        exact this r
      obtain ⟨v', e1, e2⟩ := b x d q
      exact ⟨v', (r₃ x hx).trans e1, e2⟩
  obtain ⟨y, l₃⟩ := hP₂.chg z.led Fr0.ns n₃ kp₃ bb (r₃ _ hnm')
  exact k.run h₃ _ G₂ htk₃ y l₃
/-- x, y = (e, f) -/
theorem op_swap {elts es : List PySem.Expr} {kk k2 : Nat} {tp p2 pos : Pos} {names : List Str} {ds : List Dat} {rest : List Stmt} {lvr : List (Str × Dat)} (hh : A.handled = none) (hloc : env.locals = F) (h : EvL prog w A F env (OP h₀ F M G₀ nm lv ms) es ds) (k : Run prog w A env s₀ (OP h₀ F M G₀ nm (names.zip ds ++ lvr) ms) rest Q E)
    (hlen : names.length = ds.length) (hsz : ds.length ≤ 10) (hsub : ∀ p ∈ lvr, p ∈ lv) (hxk : ∀ x ∈ names, env.kindOf x = some .local) (nd : names.Nodup) (hnw : ∀ p ∈ lvr, p.1 ∉ names) (hnm : nm ∉ names)
    (hp : (env.scope.kind == .class || (env.scope.kind == .module && env.locals != env.globals)) = false := by kernel_rfl!)
    (hs : swapsWithSole [.Tuple elts kk tp] (.Tuple es k2 p2) pos.line env = pure false := by rfl) (hw : swappedStores [.Tuple elts kk tp] (.Tuple es k2 p2) env = pure (some names) := by rfl) :
    Run prog w A env s₀ (OP h₀ F M G₀ nm lv ms) (.Assign [.Tuple elts kk tp] (.Tuple es k2 p2) pos :: rest) Q E := .mk fun h' tk G htk hP hl => by
  refine wpAny_execs_cons (wpToks (s := { s₀ with heap := h', toks := tk }) htk (asg_swap hh hp hxk nd (h.run p2 _ G _ _ htk hP hl fun vs h₂ tk₂ G₂ htk₂ z dvs => ?_) hs hw))
  have hP₂ := OP.frame.stab _ _ _ _ hP z
  obtain ⟨m, Fr0, b⟩ := hP₂.fp.loc
  have hvl : vs.length = names.length := by rw [dvs.length, hlen]
  refine ⟨hvl, by rw [dvs.length, sizeLine_eq]; omega, m, by rw [hloc]; exact Fr0.ns, fun h₃ tk₃ m₃ kp₃ n₃ b₃ r₃ htk₃ => ?_⟩
  rw [hloc] at kp₃ n₃
  have zz : ∀ (ns : List Str) (us : List Value) (cs : List Dat), ns.length = cs.length → DatAll G₂ us cs → ∀ x d, (x, d) ∈ ns.zip cs → ∃ v, (x, v) ∈ ns.zip us ∧ DatIn G₂ v d := by
    intro ns
    induction ns with
    | nil => intro us cs _ _ x d e; simp at e
    | cons n ns ih =>
      intro us cs hl1 da x d e
      cases da with
      | nil => simp at e
      | @cons u us c cs du da =>
        rcases List.mem_cons.mp e with q | q
        · cases q
          exact ⟨u, .head _, du⟩
        · obtain ⟨v, e1, e2⟩ := ih us cs (by simpa using hl1) da x d q
          exact ⟨v, .tail _ e1, e2⟩
  have bb : Binds G₂ m₃ (names.zip ds ++ lvr) := fun x d e => by
    rcases List.mem_append.mp e with q | q
    · obtain ⟨v, e1, e2⟩ := zz names vs ds hlen dvs x d q
      exact ⟨v, b₃ x v e1, e2⟩
    · obtain ⟨v', e1, e2⟩ := b x d (hsub _ q)
      exact ⟨v', (r₃ x (hnw _ q)).trans e1, e2⟩
  obtain ⟨y, l₃⟩ := hP₂.chg z.led Fr0.ns n₃ kp₃ bb (r₃ _ hnm)
  exact k.run h₃ _ G₂ htk₃ y l₃
/-- nm.append(e) -/
theorem op_append {p1 ap pos pos' : Pos} {arg : PySem.Expr} {rest : List Stmt} {d : Dat} (hloc : env.locals = F) (hkd : env.scope.kind = .function) (h : Ev prog w A F env (OP h₀ F M G₀ nm lv ms) arg d) (hsz : ms.length ≤ 1000) (k : Run prog w A env s₀ (OP h₀ F M G₀ nm lv (ms ++ [d])) rest Q E)
    (hnm : env.kindOf nm = some .local) (hdn : (nm == ("__debug__" : Str)) = false) (hint : interactive env = false) (hpos : (ap.endLine == pos.line) = true)
    (hsw : swapsWith (.Call (.Attribute (.Name nm p1) (Str.ofString "append") ap) [arg] [] pos) none pos'.line env = pure false := by rfl)
    (hes : starEach [arg] env = (false, eval arg env) :: starEach [] env := by rfl) :
    Run prog w A env s₀ (OP h₀ F M G₀ nm lv ms) (.Expr (.Call (.Attribute (.Name nm p1) (Str.ofString "append") ap) [arg] [] pos) pos' :: rest) Q E := .mk fun h' tk G htk hP hl => by
  obtain ⟨m, n1, n2⟩ := hP.nm
  obtain ⟨vs, n, eD, dvs⟩ := hP.mm
  refine wpAny_execs_cons (wpAny_Expr (wpAny_mono (Q := fun r s' => r = Value.none ∧ wpAny (model prog w) A (execs rest env) Q E s') (MethodCall_ (wpAny_Name (wpAny_loadName_local hkd hnm (by rw [hloc]; exact n1) n2 ?_) hdn) (meth_eq hpos hes)) (fun r s' q => by obtain ⟨rfl, q⟩ := q; exact q) fun _ _ e => e) hint hsw)
  refine getMethod_list_of PySem.F.slot_list_append PySem.F.type_list_append (s := { s₀ with heap := h', toks := tk }) ⟨_, eD, rfl, _, rfl⟩ ⟨_, eD, rfl⟩ ?_
  refine callWith_method1 (wpAny_items_cons (h.run _ G _ _ htk hP hl fun v h₂ tk₂ G₂ htk₂ x dv => wpAny_items_nil ?_) hes) hes (by rfl)
  have hP₂ := OP.frame.stab _ _ _ _ hP x
  obtain ⟨vs₂, n₂, eD₂, dvs₂⟩ := hP₂.mm
  refine append_at (s := { s₀ with heap := h₂, toks := tk₂ }) eD₂ (fun h₃ hs hD => ?_) (by rw [List.size_toArray, dvs₂.length, sizeLine_eq]; omega)
  rw [List.push_toArray] at hD
  refine ⟨rfl, k.run h₃ tk₂ G₂ htk₂ ?_ fun p hp => hs.extBut _ _ (hP₂.off p hp) (x.led p hp)⟩
  obtain ⟨m₂, F₂, b₂⟩ := hP₂.fp.loc
  obtain ⟨m', n1', n2'⟩ := hP₂.nm
  refine ⟨⟨⟨m₂, F₂.change hs hP₂.ne hP₂.no, b₂⟩, (fun _ _ q => nomatch q), (fun _ _ _ q => nomatch q), (fun _ _ _ q => nomatch q), hP₂.fp.off, hP₂.fp.new, hP₂.fp.sub⟩, ⟨m', n1'.sameBut hs (Ne.symm hP₂.ne), n2'⟩, ⟨_, _, hD, dvs₂.append (DatAll.one dv)⟩, hP₂.off, hP₂.ne, hP₂.no⟩
end
end Mine
end

section
open PySem PySem.W PyProof.Rows PySem.Calls PySem.SeqAt
set_option Elab.async false
set_option maxRecDepth 100000
set_option linter.all false
set_option maxHeartbeats 2000000
set_option pp.deepTerms.threshold 8
set_option pp.deepTerms false
set_option pp.proofs.threshold 2
namespace Mine
inductive RInv (h₀ : Heap) (F M : Addr) (G₀ : Ldg) (s : Shared) (gone new : List Row) (n : Nat) (s' : Shared) : Prop
  | mk (h : Heap) (tk : Nat) (G : Ldg) (gs ns : List Row) (rs : List Dat) (es : s' = { s with heap := h, toks := tk }) (htk : 0 < tk) (op : OP h₀ F M G₀ (Str.ofString "report") [(Str.ofString "gone", .list (gs.map rowOf)), (Str.ofString "new", .list (ns.map rowOf))] rs G h) (l : Led G h)
    (hn : gs.length + ns.length = n) (hsz : rs.length + n ≤ 200) (kg : ∀ r ∈ gs, rowOk r = true) (kn : ∀ r ∈ ns, rowOk r = true) (heq : rs ++ reportP gs ns = reportP gone new) : RInv h₀ F M G₀ s gone new n s'
inductive RDone (h₀ : Heap) (F M : Addr) (G₀ : Ldg) (s : Shared) (gone new : List Row) (f : Flow) (s' : Shared) : Prop
  | mk (e : f = .next) (h : Heap) (tk : Nat) (G : Ldg) (lv : List (Str × Dat)) (es : s' = { s with heap := h, toks := tk }) (htk : 0 < tk) (op : OP h₀ F M G₀ (Str.ofString "report") lv (reportP gone new) G h) (l : Led G h) : RDone h₀ F M G₀ s gone new f s'
theorem eq_nilD {prog : Program} {w : World} {A : Around} {L : Addr} {xs : List Dat} (h1 : ∀ d ∈ xs, kqdOk 8 d = true) (hu : A.units + 64 < cLine) : CmpD prog w A L .Eq (.list xs) (.list []) xs.isEmpty := by
  have h := eq_lD (prog := prog) (w := w) (A := A) (L := L) (xs := xs) (ys := []) h1 (fun d hd => nomatch hd) hu
  have e : ∀ inst : Decidable (xs = []), @decide (xs = []) inst = xs.isEmpty := fun inst => by cases xs <;> simp
  rw [e] at h
  exact h
theorem freport (gone new : List Row) (h1 : gone.length ≤ 100) (h2 : new.length ≤ 100) (k1 : ∀ r ∈ gone, rowOk r = true) (k2 : ∀ r ∈ new, rowOk r = true) : FnD 138 4 [.list (gone.map rowOf), .list (new.map rowOf)] (.list (reportP gone new)) := by
  constructor
  intro w loose mean mg mb dp un gd cn cs a ccd cl outer A₀ base h₀ L m s G vs Q E B X T hk hd1 hu F htk hl dvs k
  apply daCons (vs := vs) dvs; intro v1 vs_1 d1 r
  apply daCons (vs := vs_1) r; intro v2 vs_2 d2 r
  apply daNil (vs := vs_2) r
  refine wpAny_call ?_
  refine enterC (K := hd.heap_39 w.params) (p := hd.view_39) B F X T rfl rfl hk (by rfl) (by rfl) (show dp < _ from Nat.lt_of_le_of_lt (Nat.le_add_right dp _) hd1) (BindsTo.of_eq rfl) (by rfl) (by decide) (fun L' h₁ tk cells hle F' N' CA B' X' T' => ?_) (by rfl) (by rfl) (by rfl)
  have hu' : un + 3 + 64 < cLine := Nat.lt_of_le_of_lt (Nat.le_trans (Nat.add_le_add_right (Nat.add_le_add_left (by decide : 3 ≤ 40 * 4) un) 64) (Nat.le_refl _)) hu
  refine hide fun P back => ?_
  have bd : Binds G (fun z => if z = Str.ofString "new" then some v2 else if z = Str.ofString "gone" then some v1 else none) [(Str.ofString "gone", .list (gone.map rowOf)), (Str.ofString "new", .list (new.map rowOf))] := fun z d e => by
    simp only [List.mem_cons, List.not_mem_nil, or_false, Prod.mk.injEq] at e
    rcases e with ⟨q1, q2⟩ | ⟨q1, q2⟩
    · subst q1; subst q2; exact ⟨v1, rfl, d1⟩
    · subst q1; subst q2; exact ⟨v2, rfl, d2⟩
  have en := FP.enter (nms := []) (cv := []) F' hl bd N' (fun x c hx => nomatch hx) (fun x c x' hx => nomatch hx) (fun x c d e => nomatch e)
  obtain ⟨mF, FF, _⟩ := en.1.loc
  have htk1 : 0 < tk := Nat.lt_of_lt_of_le htk hle
  refine back ?_
  clear back P
  refine wpAny_execs_cons (fp_new (s₀ := s) rfl (by kernel_rfl!) (by kernel_rfl!) htk1 en.1 FF.ns en.2 (by kernel_rfl!) fun h₂ tk₂ M htk₂ y₂ l₂ n₂ eM nM neM kp₂ => ?_)
  have hM0 : s.heap.get? M = none := by
    cases e : s.heap.get? M with
    | none => rfl
    | some o => rw [FF.keep _ _ e] at nM; cases nM
  have op₂ : OP s.heap L' M G (Str.ofString "report") [(Str.ofString "gone", .list (gone.map rowOf)), (Str.ofString "new", .list (new.map rowOf))] [] G h₂ := ⟨y₂, ⟨_, n₂, by simp⟩, ⟨[], 0, eM, .nil⟩, fun p hp q => (by have := en.2 p hp; (first | exact noAt q this nM | exact noIs q this nM | exact (noAt q this nM).elim | exact (noIs q this nM).elim | (rw [q, nM] at this; cases this))), neM, hM0⟩
  refine wpAny_execs_cons (wpAny_mono (Q := RDone s.heap L' M G s gone new) (wpAny_While ?_) (fun f s' q => ?_) fun _ _ e => e)
  · refine codeAny_whileLoop (RInv s.heap L' M G s gone new) ?_ (gone.length + new.length) ⟨h₂, tk₂, G, gone, new, [], rfl, htk₂, op₂, l₂, rfl, by simp; omega, k1, k2, rfl⟩
    rintro n s' ⟨h, tk', G', gs, ns, rs, rfl, htk', op, l, hn, hsz, kg, kn, heq⟩
    have og : ∀ d ∈ gs.map rowOf, kqdOk 8 d = true := fun d hd => by obtain ⟨y, hy, rfl⟩ := List.mem_map.mp hd; exact rowOf_ok (kg y hy)
    have on : ∀ d ∈ ns.map rowOf, kqdOk 8 d = true := fun d hd => by obtain ⟨y, hy, rfl⟩ := List.mem_map.mp hd; exact rowOf_ok (kn y hy)
    have oe : ∀ d ∈ ([] : List Dat), kqdOk 8 d = true := fun d hd => nomatch hd
    refine (EvT.or2 OP.frame (EvT.cmp OP.frame (by (repeat' first | exact Ev.cInt | exact Ev.cStr | exact Ev.cNone | exact Ev.cBool | exact Ev.loc (OP.at (by repeat (first | with_reducible exact List.mem_cons_self | with_reducible refine List.mem_cons_of_mem _ ?_))))) (Ev.list OP.frame EvL.nil) (ne_lD og oe hu')) (fun _ => EvT.cmp OP.frame (by (repeat' first | exact Ev.cInt | exact Ev.cStr | exact Ev.cNone | exact Ev.cBool | exact Ev.loc (OP.at (by repeat (first | with_reducible exact List.mem_cons_self | with_reducible refine List.mem_cons_of_mem _ ?_))))) (Ev.list OP.frame EvL.nil) (ne_lD on oe hu'))).run _ G' _ _ htk' op l fun h₃ tk₃ G₃ htk₃ x₃ => ?_
    have op₃ := OP.frame.stab _ _ _ _ op x₃
    by_cases hq : gs = [] ∧ ns = []
    · obtain ⟨rfl, rfl⟩ := hq
      rw [if_neg (by simp)]
      rw [reportP_nil, List.append_nil] at heq
      rw [heq] at op₃
      exact wpAny_execs_nil ⟨rfl, h₃, tk₃, G₃, _, rfl, htk₃, op₃, x₃.led⟩
    · have hne : gs ≠ [] ∨ ns ≠ [] := by
        by_cases q : gs = []
        · exact .inr fun r => hq ⟨q, r⟩
        · exact .inl q
      rw [if_pos (by rcases hne with h | h <;> simp [h])]
      refine Run.run (s₀ := s) ?_ h₃ tk₃ G₃ htk₃ op₃ x₃.led
      refine op_asg (d := .int (turnP gs ns)) rfl ?_ ?_
      · cases gs with
        | nil => exact Ev.ite (c := true) OP.frame (EvT.cmp OP.frame (by (repeat' first | exact Ev.cInt | exact Ev.cStr | exact Ev.cNone | exact Ev.cBool | exact Ev.loc (OP.at (by repeat (first | with_reducible exact List.mem_cons_self | with_reducible refine List.mem_cons_of_mem _ ?_))))) (Ev.list OP.frame EvL.nil) (eq_nilD og hu')) (fun _ => Ev.cInt) (fun h => nomatch h)
        | cons g gs =>
          refine Ev.ite (c := false) OP.frame (EvT.cmp OP.frame (by (repeat' first | exact Ev.cInt | exact Ev.cStr | exact Ev.cNone | exact Ev.cBool | exact Ev.loc (OP.at (by repeat (first | with_reducible exact List.mem_cons_self | with_reducible refine List.mem_cons_of_mem _ ?_))))) (Ev.list OP.frame EvL.nil) (eq_nilD og hu')) (fun h => nomatch h) (fun _ => ?_)
          cases ns with
          | nil => exact Ev.ite (c := true) OP.frame (EvT.cmp OP.frame (by (repeat' first | exact Ev.cInt | exact Ev.cStr | exact Ev.cNone | exact Ev.cBool | exact Ev.loc (OP.at (by repeat (first | with_reducible exact List.mem_cons_self | with_reducible refine List.mem_cons_of_mem _ ?_))))) (Ev.list OP.frame EvL.nil) (eq_nilD on hu')) (fun _ => Ev.neg OP.frame Ev.cInt) (fun h => nomatch h)
          | cons n ns =>
            refine Ev.ite (c := false) OP.frame (EvT.cmp OP.frame (by (repeat' first | exact Ev.cInt | exact Ev.cStr | exact Ev.cNone | exact Ev.cBool | exact Ev.loc (OP.at (by repeat (first | with_reducible exact List.mem_cons_self | with_reducible refine List.mem_cons_of_mem _ ?_))))) (Ev.list OP.frame EvL.nil) (eq_nilD on hu')) (fun h => nomatch h) (fun _ => ?_)
            refine Ev.call (dp := dp + 1) (un := un + 3) OP.frame B' X' T' (by rfl) (by omega) (by omega) (f3way g.1 n.1) (EvL.cons OP.frame ?_ (EvL.cons OP.frame ?_ EvL.nil))
            · exact Ev.item (ds := [.str g.1, .str g.2]) OP.frame (Ev.item OP.frame (by (repeat' first | exact Ev.cInt | exact Ev.cStr | exact Ev.cNone | exact Ev.cBool | exact Ev.loc (OP.at (by repeat (first | with_reducible exact List.mem_cons_self | with_reducible refine List.mem_cons_of_mem _ ?_))))) Ev.cInt (by decide) (by decide) (by rfl)) Ev.cInt (by decide) (by decide) (by rfl)
            · exact Ev.item (ds := [.str n.1, .str n.2]) OP.frame (Ev.item OP.frame (by (repeat' first | exact Ev.cInt | exact Ev.cStr | exact Ev.cNone | exact Ev.cBool | exact Ev.loc (OP.at (by repeat (first | with_reducible exact List.mem_cons_self | with_reducible refine List.mem_cons_of_mem _ ?_))))) Ev.cInt (by decide) (by decide) (by rfl)) Ev.cInt (by decide) (by decide) (by rfl)
      · refine op_asgT (xs := [(Str.ofString "left", _), (Str.ofString "right", _)]) (ds := [.bool (leftP gs ns), .bool (rightP gs ns)]) rfl rfl ?_ ?_ rfl (by (repeat' first | with_reducible exact List.forall_mem_nil _ | refine List.forall_mem_cons.mpr ⟨?_, ?_⟩ | kernel_rfl!)) (by decide +kernel) (by kernel_rfl!) (by kernel_rfl!)
        · refine Ev.dict3 (d1 := .list [.bool true, .bool false]) (d2 := .list [.bool true, .bool true]) (d3 := .list [.bool false, .bool true]) OP.frame (Ev.list OP.frame (.cons OP.frame Ev.cBool (.cons OP.frame Ev.cBool .nil))) (Ev.list OP.frame (.cons OP.frame Ev.cBool (.cons OP.frame Ev.cBool .nil))) (Ev.list OP.frame (.cons OP.frame Ev.cBool (.cons OP.frame Ev.cBool .nil))) (Ev.strInt OP.frame X' T' (by (repeat' first | exact Ev.cInt | exact Ev.cStr | exact Ev.cNone | exact Ev.cBool | exact Ev.loc (OP.at (by repeat (first | with_reducible exact List.mem_cons_self | with_reducible refine List.mem_cons_of_mem _ ?_))))) ?_) (by decide +kernel) (by decide +kernel) (by decide +kernel) ?_
          · rcases turn_range gs ns with e | e | e <;> rw [e] <;> decide
          · unfold leftP rightP
            rcases turn_range gs ns with e | e | e <;> rw [e]
            · exact .inl ⟨by decide +kernel, rfl⟩
            · exact .inr (.inl ⟨by decide +kernel, rfl⟩)
            · exact .inr (.inr ⟨by decide +kernel, rfl⟩)
        · change Run _ _ _ _ _ (OP _ _ _ _ _ [(Str.ofString "left", .bool (leftP gs ns)), (Str.ofString "right", .bool (rightP gs ns)), (Str.ofString "turn", .int (turnP gs ns)), (Str.ofString "gone", .list (gs.map rowOf)), (Str.ofString "new", .list (ns.map rowOf))] _) _ _ _
          refine op_append (d := repRow gs ns) rfl (by kernel_rfl!) ?_ (by omega) ?_ (by kernel_rfl!) (by decide +kernel) (by rfl) (by rfl)
          · have tl : ∀ {e : PySem.Expr} {c : Bool}, True := fun {_ _} => trivial
            unfold repRow
            refine Ev.list OP.frame (.cons OP.frame ?_ (.cons OP.frame ?_ (.cons OP.frame ?_ .nil)))
            · cases hL : leftP gs ns with
              | true =>
                obtain ⟨g, gs', rfl⟩ := left_has hL
                exact Ev.item (ds := [.str g.1, .str g.2]) OP.frame (Ev.item (ds := (g :: gs').map rowOf) OP.frame (Ev.ite (c := true) OP.frame (EvT.val (by (repeat' first | exact Ev.cInt | exact Ev.cStr | exact Ev.cNone | exact Ev.cBool | exact Ev.loc (OP.at (by repeat (first | with_reducible exact List.mem_cons_self | with_reducible refine List.mem_cons_of_mem _ ?_)))))) (fun _ => by (repeat' first | exact Ev.cInt | exact Ev.cStr | exact Ev.cNone | exact Ev.cBool | exact Ev.loc (OP.at (by repeat (first | with_reducible exact List.mem_cons_self | with_reducible refine List.mem_cons_of_mem _ ?_))))) (fun h => nomatch h)) Ev.cInt (by decide) (by decide) (by rfl)) Ev.cInt (by decide) (by decide) (by rfl)
              | false =>
                obtain ⟨n, ns', rfl⟩ := right_has ((left_or_right gs ns).resolve_left (by simp [hL])) hne
                exact Ev.item (ds := [.str n.1, .str n.2]) OP.frame (Ev.item (ds := (n :: ns').map rowOf) OP.frame (Ev.ite (c := false) OP.frame (EvT.val (by (repeat' first | exact Ev.cInt | exact Ev.cStr | exact Ev.cNone | exact Ev.cBool | exact Ev.loc (OP.at (by repeat (first | with_reducible exact List.mem_cons_self | with_reducible refine List.mem_cons_of_mem _ ?_)))))) (fun h => nomatch h) (fun _ => by (repeat' first | exact Ev.cInt | exact Ev.cStr | exact Ev.cNone | exact Ev.cBool | exact Ev.loc (OP.at (by repeat (first | with_reducible exact List.mem_cons_self | with_reducible refine List.mem_cons_of_mem _ ?_)))))) Ev.cInt (by decide) (by decide) (by rfl)) Ev.cInt (by decide) (by decide) (by rfl)
            · refine Ev.ite (c := leftP gs ns) OP.frame (EvT.val (by (repeat' first | exact Ev.cInt | exact Ev.cStr | exact Ev.cNone | exact Ev.cBool | exact Ev.loc (OP.at (by repeat (first | with_reducible exact List.mem_cons_self | with_reducible refine List.mem_cons_of_mem _ ?_)))))) (fun hL => ?_) (fun hL => ?_)
              · obtain ⟨g, gs', rfl⟩ := left_has hL
                rw [if_pos hL]
                exact Ev.item (ds := [.str g.1, .str g.2]) OP.frame (Ev.item (ds := (g :: gs').map rowOf) OP.frame (by (repeat' first | exact Ev.cInt | exact Ev.cStr | exact Ev.cNone | exact Ev.cBool | exact Ev.loc (OP.at (by repeat (first | with_reducible exact List.mem_cons_self | with_reducible refine List.mem_cons_of_mem _ ?_))))) Ev.cInt (by decide) (by decide) (by rfl)) Ev.cInt (by decide) (by decide) (by rfl)
              · rw [if_neg (by simp [hL])]
                exact Ev.cNone
            · refine Ev.ite (c := rightP gs ns) OP.frame (EvT.val (by (repeat' first | exact Ev.cInt | exact Ev.cStr | exact Ev.cNone | exact Ev.cBool | exact Ev.loc (OP.at (by repeat (first | with_reducible exact List.mem_cons_self | with_reducible refine List.mem_cons_of_mem _ ?_)))))) (fun hL => ?_) (fun hL => ?_)
              · obtain ⟨n, ns', rfl⟩ := right_has hL hne
                rw [if_pos hL]
                exact Ev.item (ds := [.str n.1, .str n.2]) OP.frame (Ev.item (ds := (n :: ns').map rowOf) OP.frame (by (repeat' first | exact Ev.cInt | exact Ev.cStr | exact Ev.cNone | exact Ev.cBool | exact Ev.loc (OP.at (by repeat (first | with_reducible exact List.mem_cons_self | with_reducible refine List.mem_cons_of_mem _ ?_))))) Ev.cInt (by decide) (by decide) (by rfl)) Ev.cInt (by decide) (by decide) (by rfl)
              · rw [if_neg (by simp [hL])]
                exact Ev.cNone
          · refine op_swap (names := [Str.ofString "gone", Str.ofString "new"]) (ds := [.list ((if leftP gs ns then gs.drop 1 else gs).map rowOf), .list ((if rightP gs ns then ns.drop 1 else ns).map rowOf)]) (lvr := []) rfl rfl (.cons OP.frame ?_ (.cons OP.frame ?_ .nil)) ?_ rfl (Nat.le_of_ble_eq_true rfl) (fun p hp => nomatch hp) (by (repeat' first | with_reducible exact List.forall_mem_nil _ | refine List.forall_mem_cons.mpr ⟨?_, ?_⟩ | kernel_rfl!)) (by decide +kernel) (fun p hp => nomatch hp) (by decide +kernel)
            · refine Ev.ite (c := leftP gs ns) OP.frame (EvT.val (by (repeat' first | exact Ev.cInt | exact Ev.cStr | exact Ev.cNone | exact Ev.cBool | exact Ev.loc (OP.at (by repeat (first | with_reducible exact List.mem_cons_self | with_reducible refine List.mem_cons_of_mem _ ?_)))))) (fun hL => ?_) (fun hL => ?_)
              · rw [if_pos hL, List.map_drop]
                exact Ev.slice OP.frame (by (repeat' first | exact Ev.cInt | exact Ev.cStr | exact Ev.cNone | exact Ev.cBool | exact Ev.loc (OP.at (by repeat (first | with_reducible exact List.mem_cons_self | with_reducible refine List.mem_cons_of_mem _ ?_))))) (.at Ev.cInt) .no (by rw [List.length_map, sizeLine_eq]; omega) (pick_from 1)
              · rw [if_neg (by simp [hL])]
                (repeat' first | exact Ev.cInt | exact Ev.cStr | exact Ev.cNone | exact Ev.cBool | exact Ev.loc (OP.at (by repeat (first | with_reducible exact List.mem_cons_self | with_reducible refine List.mem_cons_of_mem _ ?_))))
            · refine Ev.ite (c := rightP gs ns) OP.frame (EvT.val (by (repeat' first | exact Ev.cInt | exact Ev.cStr | exact Ev.cNone | exact Ev.cBool | exact Ev.loc (OP.at (by repeat (first | with_reducible exact List.mem_cons_self | with_reducible refine List.mem_cons_of_mem _ ?_)))))) (fun hL => ?_) (fun hL => ?_)
              · rw [if_pos hL, List.map_drop]
                exact Ev.slice OP.frame (by (repeat' first | exact Ev.cInt | exact Ev.cStr | exact Ev.cNone | exact Ev.cBool | exact Ev.loc (OP.at (by repeat (first | with_reducible exact List.mem_cons_self | with_reducible refine List.mem_cons_of_mem _ ?_))))) (.at Ev.cInt) .no (by rw [List.length_map, sizeLine_eq]; omega) (pick_from 1)
              · rw [if_neg (by simp [hL])]
                (repeat' first | exact Ev.cInt | exact Ev.cStr | exact Ev.cNone | exact Ev.cBool | exact Ev.loc (OP.at (by repeat (first | with_reducible exact List.mem_cons_self | with_reducible refine List.mem_cons_of_mem _ ?_))))
            · refine .mk fun h₄ tk₄ G₄ htk₄ op₄ l₄ => wpAny_execs_nil ?_
              have hls := report_less hne
              refine ⟨_, (by omega : (if leftP gs ns then gs.drop 1 else gs).length + (if rightP gs ns then ns.drop 1 else ns).length < n), h₄, tk₄, G₄, _, _, _, rfl, htk₄, op₄, l₄, rfl, ?_, ?_, ?_, ?_⟩
              · rw [List.length_append, List.length_singleton]; omega
              · intro r hr
                split at hr
                · exact kg r (List.mem_of_mem_drop hr)
                · exact kg r hr
              · intro r hr
                split at hr
                · exact kn r (List.mem_of_mem_drop hr)
                · exact kn r hr
              · rw [List.append_assoc, ← heq, reportP_step hne]
                rfl
  · obtain ⟨rfl, h₅, tk₅, G₅, lv₅, rfl, htk₅, op₅, l₅⟩ := q
    dsimp only
    obtain ⟨m₅, n₅, e₅⟩ := op₅.nm
    obtain ⟨vs₅, nn₅, eM₅, d₅⟩ := op₅.mm
    refine wpAny_execs_cons (wpAny_Return_some (wpAny_Name (wpAny_loadName_local (by kernel_rfl!) (by kernel_rfl!) n₅ e₅ ?_) (by decide +kernel)))
    obtain ⟨mZ, FZ, _⟩ := op₅.fp.loc
    refine k _ h₅ tk₅ ((M, W.listOf (List.toArray vs₅) nn₅) :: G₅) FZ.keep (fun p hp => .tail _ (op₅.fp.sub p hp)) (fun p hp => ?_) (fun p hp => ?_) (.list (.head _) (d₅.mono fun p hp => .tail _ hp))
    · rcases List.mem_cons.mp hp with rfl | hp
      · exact .inr op₅.no
      · exact op₅.fp.new p hp
    · rcases List.mem_cons.mp hp with rfl | hp
      · exact eM₅
      · exact l₅ p hp
end Mine
end

section
open PySem PySem.W PyProof.Rows
set_option Elab.async false
set_option maxRecDepth 100000
namespace Mine
def fmTabs : List (List (Int × Str)) := [
  [(40960, ⟨#[108]⟩), (49152, ⟨#[115]⟩), (32768, ⟨#[45]⟩), (24576, ⟨#[98]⟩), (16384, ⟨#[100]⟩), (8192, ⟨#[99]⟩), (4096, ⟨#[112]⟩)],
  [(256, ⟨#[114]⟩)], [(128, ⟨#[119]⟩)], [(2112, ⟨#[115]⟩), (2048, ⟨#[83]⟩), (64, ⟨#[120]⟩)],
  [(32, ⟨#[114]⟩)], [(16, ⟨#[119]⟩)], [(1032, ⟨#[115]⟩), (1024, ⟨#[83]⟩), (8, ⟨#[120]⟩)],
  [(4, ⟨#[114]⟩)], [(2, ⟨#[119]⟩)], [(513, ⟨#[116]⟩), (512, ⟨#[84]⟩), (1, ⟨#[120]⟩)]]
def fmHit (i : Nat) (n b : Int) : Bool := if i = 0 then decide (Builtin.bitAnd n 61440 = b) else decide (Builtin.bitAnd n b = b)
def fmPick (i : Nat) (n : Int) : List (Int × Str) → Str
  | [] => if i = 0 then ⟨#[63]⟩ else ⟨#[45]⟩
  | (b, c) :: r => if fmHit i n b then c else fmPick i n r
def fmCh (n : Int) (i : Nat) : Str := fmPick i n (fmTabs.getD i [])
def fmList (n : Int) (i : Nat) : List Str := (List.range i).map (fmCh n)
/-- a table's row of (bit, sign) pairs in the heap -/
def EntAt (h : Heap) (v : Value) (e : Int × Str) : Prop := ∃ a t u, v = .ref a ∧ IsTup h a #[.int e.1 t, .str e.2 u]
inductive EntsAt (h : Heap) : List Value → List (Int × Str) → Prop
  | nil : EntsAt h [] []
  | cons {v e vs es} : EntAt h v e → EntsAt h vs es → EntsAt h (v :: vs) (e :: es)
theorem EntsAt.length {h vs es} (x : EntsAt h vs es) : vs.length = es.length := by induction x <;> simp_all
theorem EntsAt.get {h vs es} (x : EntsAt h vs es) : ∀ {i : Nat} {v : Value}, vs[i]? = some v → ∃ e, es[i]? = some e ∧ EntAt h v e := by
  induction x with
  | nil => intro i v h; simp at h
  | cons a b ih =>
    intro i v h
    cases i with
    | zero => simp at h; subst h; exact ⟨_, rfl, a⟩
    | succ i => simpa using ih (by simpa using h)
def TabAt' (h : Heap) (v : Value) (es : List (Int × Str)) : Prop := ∃ a vs, v = .ref a ∧ h.IsTuple a (List.toArray vs) ∧ EntsAt h vs es
inductive TabsAt (h : Heap) : List Value → List (List (Int × Str)) → Prop
  | nil : TabsAt h [] []
  | cons {v e vs es} : TabAt' h v e → TabsAt h vs es → TabsAt h (v :: vs) (e :: es)
theorem TabsAt.get {h vs es} (x : TabsAt h vs es) : ∀ {i : Nat} {v : Value}, vs[i]? = some v → ∃ e, es[i]? = some e ∧ TabAt' h v e := by
  induction x with
  | nil => intro i v h; simp at h
  | cons a b ih =>
    intro i v h
    cases i with
    | zero => simp at h; subst h; exact ⟨_, rfl, a⟩
    | succ i => simpa using ih (by simpa using h)
def fmRefs : List Value := [.ref 61, .ref 63, .ref 65, .ref 69, .ref 71, .ref 73, .ref 77, .ref 79, .ref 81, .ref 85]
set_option maxHeartbeats 1000000 in
theorem fm_tabs {w : World} {h : Heap} (X : (hd.heap_39 w.params).In h) : h.IsTuple 86 fmRefs.toArray ∧ TabsAt h fmRefs fmTabs := by
  have tup : ∀ (a : Addr) (vs : List Value) (o : Obj), (hd.heap_39 w.params).lookup a = some o → o.cls = .type "tuple" → (∃ n, o.data = .seq vs.toArray n) → h.IsTuple a vs.toArray := fun a vs o e1 e2 e3 => ⟨o, X a o e1, e2, e3⟩
  refine ⟨tup 86 fmRefs _ (by rfl) (by rfl) ⟨_, by rfl⟩, ?_⟩
  unfold fmRefs fmTabs
  repeat' (first
    | exact TabsAt.nil | refine TabsAt.cons ?_ ?_
    | (refine ⟨_, _, rfl, tup _ _ _ (by rfl) (by rfl) ⟨_, by rfl⟩, ?_⟩)
    | exact EntsAt.nil | refine EntsAt.cons ?_ ?_
    | exact ⟨_, _, _, rfl, tup _ [_, _] _ (by rfl) (by rfl) ⟨_, by rfl⟩⟩)
end Mine
namespace Mine
open PySem PySem.W PyProof.Rows
theorem fm_no {n : Int} {i j : Nat} {es : List (Int × Str)} {e : Int × Str} (hno : ∀ e' ∈ es.take j, fmHit i n e'.1 = false) (he : es[j]? = some e) (h : fmHit i n e.1 = false) : ∀ e' ∈ es.take (j + 1), fmHit i n e'.1 = false := by
  intro e' hm
  rw [List.take_add_one, he] at hm
  rcases List.mem_append.mp hm with hm | hm
  · exact hno e' hm
  · simp at hm; subst hm; exact h
theorem fm_hit {n : Int} {i : Nat} {e : Int × Str} (h : fmHit i n e.1 = true) : ∀ {es : List (Int × Str)} {j : Nat}, (∀ e' ∈ es.take j, fmHit i n e'.1 = false) → es[j]? = some e → fmPick i n es = e.2
  | [], _, _, he => by simp at he
  | (b, c) :: r, 0, _, he => by
    simp at he; subst he
    rw [fmPick, if_pos h]
  | (b, c) :: r, j + 1, hno, he => by
    rw [fmPick, if_neg (by rw [hno (b, c) (by simp)]; simp)]
    exact fm_hit (j := j) h (fun e' hm => hno e' (by simp [hm])) (by simpa using he)
theorem fm_none {n : Int} {i : Nat} : ∀ {es : List (Int × Str)}, (∀ e' ∈ es, fmHit i n e'.1 = false) → fmPick i n es = if i = 0 then ⟨#[63]⟩ else ⟨#[45]⟩
  | [], _ => by rw [fmPick]
  | (b, c) :: r, hno => by
    rw [fmPick, if_neg (by rw [hno (b, c) (.head _)]; simp)]
    exact fm_none fun e' hm => hno e' (.tail _ hm)
theorem fmCh_of {n : Int} {i : Nat} {es : List (Int × Str)} (h : fmTabs[i]? = some es) : fmCh n i = fmPick i n es := by
  unfold fmCh
  rw [List.getD_eq_getElem?_getD, h]; rfl
theorem fmList_succ (n : Int) (i : Nat) : fmList n (i + 1) = fmList n i ++ [fmCh n i] := by
  unfold fmList; rw [List.range_succ, List.map_append]; rfl
theorem fmList_length (n : Int) (i : Nat) : (fmList n i).length = i := by simp [fmList]
theorem fmPick_len {n : Int} {i : Nat} : ∀ {es : List (Int × Str)}, (∀ e ∈ es, e.2.length = 1) → (fmPick i n es).length = 1
  | [], _ => by rw [fmPick]; split <;> rfl
  | (b, c) :: r, h => by
    rw [fmPick]
    split
    · exact h (b, c) (.head _)
    · exact fmPick_len fun e hm => h e (.tail _ hm)
theorem fmTabs_len : ∀ es ∈ fmTabs, ∀ e ∈ es, e.2.length = 1 := by decide +kernel
theorem fmCh_len (n : Int) (i : Nat) : (fmCh n i).length = 1 := by
  unfold fmCh
  refine fmPick_len fun e he => ?_
  cases h : fmTabs[i]? with
  | none => rw [List.getD_eq_getElem?_getD, h] at he; simp at he
  | some es =>
    rw [List.getD_eq_getElem?_getD, h] at he
    exact fmTabs_len es (List.mem_of_getElem? h) e he
theorem fmList_sum (n : Int) (i : Nat) : ((fmList n i).map (·.length)).sum = i := by
  induction i with
  | zero => rfl
  | succ i ih => rw [fmList_succ, List.map_append, List.sum_append, ih]; simp [fmCh_len]
theorem fm_push {n : Int} {i : Nat} {vs : List Value} {c : Str} {t : Tok} (h : StrsAre vs (fmList n i)) (hc : fmCh n i = c) : StrsAre (vs ++ [Value.str c t]) (fmList n (i + 1)) := by
  rw [fmList_succ, hc]
  exact h.append' (.cons _ _ .nil)
/-- what filemode gives -/
def fm (n : Int) : Str := Txt.join (Str.ofString "") (fmList n 10)
end Mine
end

section
open PySem PySem.W PyProof.Rows
open PySem.AutoSeq1 (wpAny_loadPart')
set_option Elab.async false
set_option maxRecDepth 100000
namespace Mine
section
variable {prog : Program} {w : World} {A : Around} {E : Value → Shared → Prop} {s : Shared}

/-- enumerate.__new__ of a tuple -/
theorem enumNewT (l : Addr) (items : Array Value) (n : Nat) (dct : Option Addr) (sl : Array (Option Value)) :
    Meets (Builtin.«enumerate.__new__» ⟨[.type "enumerate", .ref l], []⟩) (fun _ R s => s.heap.get? l = some { cls := .type "tuple", dict := dct, data := .seq items n, slots := sl } ∧
      R (.ok (.ret (.ref (s.heap.push { cls := .type "tuple_iterator", data := .fields #[.ref l, .int 0 0] }).objs.size)))
        { s with heap := (s.heap.push { cls := .type "tuple_iterator", data := .fields #[.ref l, .int 0 0] }).push { cls := .type "enumerate", data := .fields #[.none, .bool false, .ref s.heap.objs.size, rawInt 0, .none, .none] } }) :=
  .of_wp fun prog w A R s h => by
    obtain ⟨hp, g, d, tk, os⟩ := s; obtain ⟨hl, h⟩ := h
    have hsub := sub_enumerate
    have hL : Heap.IsTuple (Shared.heap ⟨hp, g, d, tk, os⟩) l items := ⟨_, hl, rfl, n, rfl⟩
    wp_walk using wpAny_loadPart' hl
    refine wpAny_stack_any fun st => wpAny_pure ?_
    split
    · rename_i c _ _ _ _ _
      cases (c == Value.type "enumerate")
      · wp_walk using wpAny_loadPart' hl, wpAny_pyIter_tuple hL
        exact ⟨_, rfl, h⟩
      · wp_walk using wpAny_loadPart' hl, wpAny_pyIter_tuple hL
        exact ⟨_, rfl, h⟩
    · wp_walk using wpAny_loadPart' hl, wpAny_pyIter_tuple hL
      exact ⟨_, rfl, h⟩

theorem enumCallT {l : Addr} {items : Array Value} {Q : Value → Shared → Prop} (hL : s.heap.IsTuple l items)
    (h : ∀ h', IsEnum h' (s.heap.objs.size + 1) s.heap.objs.size 0 .none → h'.IsTupleIter s.heap.objs.size l 0 → h'.objs.size = s.heap.objs.size + 2 →
      (∀ b o, s.heap.get? b = some o → h'.get? b = some o) → Q (.ref (s.heap.objs.size + 1)) { s with heap := h' }) :
    wpAny (model prog w) A (call (.type "enumerate") [.ref l]) Q E s := by
  obtain ⟨⟨c, dct, dt, sl⟩, hl, hc, n, hd⟩ := hL
  replace hc : c = .type "tuple" := hc
  replace hd : dt = .seq items n := hd
  subst hc hd
  refine callType_new PySem.F.called_enumerate (by decide) (PySem.F.typeCall_enumerate_1 _) (PySem.F.newCall_enumerate_1 _) (fun obj => PySem.F.args_object_init_2 obj _) PySem.F.entry_enumerate_new
    (enumNewT l items n dct sl) ⟨hl, ?_⟩
  have hz : (s.heap.push { cls := .type "tuple_iterator", data := .fields #[.ref l, .int 0 0] }).objs.size = s.heap.objs.size + 1 := Heap.size_push ..
  show _ ∧ _
  rw [hz]
  have he : IsEnum ((s.heap.push { cls := .type "tuple_iterator", data := .fields #[.ref l, .int 0 0] }).push
      { cls := .type "enumerate", data := .fields #[.none, .bool false, .ref s.heap.objs.size, rawInt 0, .none, .none] }) (s.heap.objs.size + 1) s.heap.objs.size 0 .none := by
    have := Heap.get?_push_size (s.heap.push { cls := .type "tuple_iterator", data := .fields #[.ref l, .int 0 0] })
      (o := { cls := .type "enumerate", data := .fields #[.none, .bool false, .ref s.heap.objs.size, rawInt 0, .none, .none] }) rfl
    rw [hz] at this; exact this
  exact ⟨⟨_, he, rfl⟩, h _ he ⟨_, Heap.get?_push_of_some _ (Heap.get?_push_size _ rfl), rfl, rfl⟩ (by rw [Heap.size_push, hz]) fun b o x => Heap.get?_push_of_some _ (Heap.get?_push_of_some _ x)⟩

theorem nextOfT {it l : Addr} {i : Nat} {items} {x : Value} {Q : Value → Shared → Prop} (hit : s.heap.IsTupleIter it l i)
    (hl : s.heap.IsTuple l items) (hx : items[i]? = some x)
    (hQ : ∀ h', h'.IsTupleIter it l (i + 1) → Heap.SameBut it s.heap h' → Q x { s with heap := h' }) :
    wpAny (model prog w) A (Builtin.SmallTypes.nextOf (.ref it)) Q E s := by
  obtain ⟨o, ho, hc, hd⟩ := id hit
  obtain ⟨ol, hol, _, nl, hdl⟩ := hl
  unfold Builtin.SmallTypes.nextOf
  refine wpAny_bind (wpAny_callSpecial?_slot (name := Str.ofString "__next__") hit.typeIs PySem.F.slot_tuple_iterator_next
    (wpAny_call_entry PySem.F.slot_tuple_iterator_next hit.typeIs PySem.F.entry_tuple_iterator_next ?_ (PySem.F.args_tuple_iterator_next_1 _)))
  show wpAny _ _ (field (.ref it) 0 >>= _) _ _ s
  refine wpAny_bind (wpAny_field ho hd (x := .ref l) rfl ?_)
  show wpAny _ _ (if (Value.ref l == Value.none) = true then _ else _) _ _ s
  rw [if_neg (show ¬ ((Value.ref l == Value.none) = true) from Bool.false_ne_true)]
  show wpAny _ _ (field (.ref it) 1 >>= _) _ _ s
  refine wpAny_bind (wpAny_field ho hd (x := .int i 0) rfl ?_)
  show wpAny _ _ (seqItems? (.ref l) >>= _) _ _ s
  refine wpAny_bind (wpAny_seqItems hol hdl ?_)
  simp only [Int.toNat_natCast, hx]
  refine wpAny_bind (wpAny_setField ho hd (by simp) (wpAny_pure ⟨x, rfl, wpAny_pure (hQ _ ?_ (Heap.SameBut.update ..))⟩))
  exact ⟨_, Heap.get?_update_self _ ho (Obj.isFreed_of_fields (Obj.data_mapFields hd _)), (Obj.cls_mapFields ..).trans hc, by
    rw [Obj.data_mapFields hd]; simp [rawInt]⟩

theorem nextOfTEnd {it l : Addr} {i : Nat} {items} {Q : Value → Shared → Prop} (hh : A.handled = none)
    (hit : s.heap.IsTupleIter it l i) (hl : s.heap.IsTuple l items) (hx : items[i]? = none)
    (hE : ∀ h' e, Heap.ExtBut it s.heap h' → (∃ o, h'.get? e = some o ∧ o.cls = .type "StopIteration") → E (.ref e) { s with heap := h' }) :
    wpAny (model prog w) A (Builtin.SmallTypes.nextOf (.ref it)) Q E s := by
  obtain ⟨o, ho, hc, hd⟩ := id hit
  obtain ⟨ol, hol, _, nl, hdl⟩ := hl
  unfold Builtin.SmallTypes.nextOf
  refine wpAny_bind (wpAny_callSpecial?_slot (name := Str.ofString "__next__") hit.typeIs PySem.F.slot_tuple_iterator_next
    (wpAny_call_entry PySem.F.slot_tuple_iterator_next hit.typeIs PySem.F.entry_tuple_iterator_next ?_ (PySem.F.args_tuple_iterator_next_1 _)))
  show wpAny _ _ (field (.ref it) 0 >>= _) _ _ s
  refine wpAny_bind (wpAny_field ho hd (x := .ref l) rfl ?_)
  show wpAny _ _ (if (Value.ref l == Value.none) = true then _ else _) _ _ s
  rw [if_neg (show ¬ ((Value.ref l == Value.none) = true) from Bool.false_ne_true)]
  show wpAny _ _ (field (.ref it) 1 >>= _) _ _ s
  refine wpAny_bind (wpAny_field ho hd (x := .int i 0) rfl ?_)
  show wpAny _ _ (seqItems? (.ref l) >>= _) _ _ s
  refine wpAny_bind (wpAny_seqItems hol hdl ?_)
  simp only [Int.toNat_natCast, hx]
  refine wpAny_bind (wpAny_rule (wpAny_bind (wpAny_setField ho hd (by simp) ?_)))
  show wpAny _ _ (newExc (.type "StopIteration") [] >>= _) _ _ _
  refine wpAny_bind ?_
  simp only [newExc, newTuple]
  refine wpAny_bind (wpAny_newObj_type ?_ (by size_fits))
  refine wpAny_bind (m := firstArgMember _ _) (wpAny_of_eq (a := Value.none) (by first | rfl | (simp only [firstArgMember]; rfl)) ?_)
  refine wpAny_newObj_type ?_ (by size_fits)
  simp only [raiseNew]
  refine wpAny_bind (wpAny_handled ?_)
  first | rw [show A.in1.handled = none from hh] | rw [hh]
  refine wpAny_bind (wpAny_pure (wpAny_throw ?_))
  exact hE _ _ (((Heap.SameBut.update ..).extBut.push _).push _) ⟨_, Heap.get?_push_size _ rfl, rfl⟩
end
end Mine
end

section
open PySem PySem.W PyProof.Rows
set_option Elab.async false
set_option maxRecDepth 100000
namespace Mine
section
variable {prog : Program} {w : World} {A : Around} {E : Value → Shared → Prop} {s : Shared}
theorem enumNextT {e it l : Addr} {i : Nat} {items : Array Value} {x old : Value} {Q : Value → Shared → Prop}
    (he : IsEnum s.heap e it i old) (hit : s.heap.IsTupleIter it l i) (hl : s.heap.IsTuple l items) (hx : items[i]? = some x) (hne : e ≠ it)
    (hQ : ∀ h', IsEnumOut h' e it ((i : Int) + 1) x s.heap.objs.size → h'.IsTupleIter it l (i + 1) →
      h'.get? s.heap.objs.size = some { cls := .type "tuple", data := .seq #[.int i s.toks, x] } → h'.objs.size = s.heap.objs.size + 1 →
      (∀ b o, b ≠ e → b ≠ it → s.heap.get? b = some o → h'.get? b = some o) → Q (.ref s.heap.objs.size) { s with heap := h', toks := s.toks + 1 }) :
    wpAny (model prog w) A (Builtin.«enumerate.__next__» ⟨[.ref e], []⟩) (fun fin s' => ∃ v, fin = .done (.ret v) ∧ Q v s') E s := by
  obtain ⟨hp, g, d, tk, os⟩ := s
  show wpAny _ _ (field (.ref e) 2 >>= _) _ _ _
  refine wpAny_bind (wpAny_field he rfl (x := .ref it) rfl ?_)
  refine wpAny_bind (nextOfT hit hl hx fun h₁ hit₁ hs₁ => ?_)
  replace hs₁ : Heap.SameBut it hp h₁ := hs₁
  have he₁ : IsEnum h₁ e it i old := (hs₁.2 e hne).trans he
  show wpAny _ _ (field (.ref e) 3 >>= _) _ _ ⟨h₁, g, d, tk, os⟩
  refine wpAny_bind (wpAny_field he₁ rfl (x := rawInt i) rfl ?_)
  show wpAny _ _ (field (.ref e) 4 >>= _) _ _ ⟨h₁, g, d, tk, os⟩
  refine wpAny_bind (wpAny_field he₁ rfl (x := .none) rfl ?_)
  show wpAny _ _ (mkInt i >>= _) _ _ ⟨h₁, g, d, tk, os⟩
  refine wpAny_bind (wpAny_mkInt ?_)
  show wpAny _ _ (setField (.ref e) 3 (rawInt ((i : Int) + 1)) >>= _) _ _ ⟨h₁, g, d, tk + 1, os⟩
  refine wpAny_bind (wpAny_setField_rec he₁ (by simp) fun h₂ he₂ hs₂ => ?_)
  replace hs₂ : Heap.SameBut e h₁ h₂ := hs₂
  replace he₂ : IsEnum h₂ e it ((i : Int) + 1) old := he₂
  show wpAny _ _ (setField (.ref e) 4 .none >>= _) _ _ ⟨h₂, g, d, tk + 1, os⟩
  refine wpAny_bind (wpAny_setField_rec he₂ (by simp) fun h₃ he₃ hs₃ => ?_)
  replace hs₃ : Heap.SameBut e h₂ h₃ := hs₃
  replace he₃ : IsEnum h₃ e it ((i : Int) + 1) old := he₃
  show wpAny _ _ (newTuple [.int i tk, x] >>= _) _ _ ⟨h₃, g, d, tk + 1, os⟩
  refine wpAny_bind (wpAny_newTuple ?_)
  have he₄ : IsEnum (h₃.push { cls := .type "tuple", data := .seq #[.int i tk, x] }) e it ((i : Int) + 1) old := Heap.get?_push_of_some _ he₃
  generalize hh₄ : h₃.push { cls := .type "tuple", data := .seq #[.int i tk, x] } = h₄ at he₄
  have hsz : h₃.objs.size = hp.objs.size := by rw [hs₃.1, hs₂.1, hs₁.1]
  have hel : e < hp.objs.size := Heap.lt_size he
  have ht₄ : h₄.get? hp.objs.size = some { cls := .type "tuple", data := .seq #[.int i tk, x] } := by rw [← hh₄, ← hsz]; exact Heap.get?_push_size _ rfl
  have hz₄ : h₄.objs.size = hp.objs.size + 1 := by rw [← hh₄, Heap.size_push, hsz]
  have hk₄ : ∀ b o, b ≠ e → b ≠ it → hp.get? b = some o → h₄.get? b = some o := fun b o hbe hbi hb => by
    rw [← hh₄]; exact Heap.get?_push_of_some _ (hs₃.extBut b o hbe (hs₂.extBut b o hbe (hs₁.extBut b o hbi hb)))
  have hit₄ : h₄.IsTupleIter it l (i + 1) := by
    rw [← hh₄]; obtain ⟨o, ho, r⟩ := (hit₁.extBut hs₂.extBut (Ne.symm hne)).extBut hs₃.extBut (Ne.symm hne); exact ⟨o, Heap.get?_push_of_some _ ho, r⟩
  show wpAny _ _ (Builtin.SmallTypes.ownedTupleIsFree (.ref e) >>= _) _ _ ⟨h₄, g, d, tk + 1, os⟩
  rw [hsz]
  clear hh₄ he₃ hs₃ he₂ hs₂ he₁ hs₁ hit₁ hsz h₃ h₂ h₁
  refine wpAny_bind ?_
  · unfold Builtin.SmallTypes.ownedTupleIsFree
    refine wpAny_bind (wpAny_field he₄ rfl (x := .none) rfl (wpAny_pure ?_))
    simp only [if_true]
    refine wpAny_bind (wpAny_rule ?_)
    refine wpAny_bind (wpAny_field he₄ rfl (x := old) rfl ?_)
    refine wpAny_bind (wpAny_setField_rec he₄ (by simp) fun h₅ he₅ hs₅ => ?_)
    replace hs₅ : Heap.SameBut e h₄ h₅ := hs₅
    replace he₅ : IsEnum h₅ e it ((i : Int) + 1) x := he₅
    show wpAny _ _ (Builtin.SmallTypes.ownedTupleHandOut (.ref e) (.ref hp.objs.size) >>= _) _ _ ⟨h₅, g, d, tk + 1, os⟩
    refine wpAny_bind ?_
    · unfold Builtin.SmallTypes.ownedTupleHandOut
      refine wpAny_bind (wpAny_setField_rec he₅ (by simp) fun h₆ he₆ hs₆ => ?_)
      replace hs₆ : Heap.SameBut e h₅ h₆ := hs₆
      replace he₆ : IsEnumOut h₆ e it ((i : Int) + 1) x hp.objs.size := he₆
      refine wpAny_setField_rec he₆ (by simp) fun h₇ he₇ hs₇ => ?_
      replace hs₇ : Heap.SameBut e h₆ h₇ := hs₇
      replace he₇ : IsEnumOut h₇ e it ((i : Int) + 1) x hp.objs.size := he₇
      refine wpAny_bind (wpAny_letGo (wpAny_pure ⟨_, rfl, hQ h₇ he₇ ?_ ?_ ?_ ?_⟩))
      · exact ((hit₄.extBut hs₅.extBut (Ne.symm hne)).extBut hs₆.extBut (Ne.symm hne)).extBut hs₇.extBut (Ne.symm hne)
      · exact hs₇.extBut _ _ (Nat.ne_of_gt hel) (hs₆.extBut _ _ (Nat.ne_of_gt hel) (hs₅.extBut _ _ (Nat.ne_of_gt hel) ht₄))
      · rw [hs₇.1, hs₆.1, hs₅.1, hz₄]
      · exact fun b o hbe hbi hb => hs₇.extBut b o hbe (hs₆.extBut b o hbe (hs₅.extBut b o hbe (hk₄ b o hbe hbi hb)))

theorem pyNextT {e it l : Addr} {i : Nat} {items : Array Value} {x old : Value} {Q : Option Value → Shared → Prop}
    (he : IsEnum s.heap e it i old) (hit : s.heap.IsTupleIter it l i) (hl : s.heap.IsTuple l items) (hx : items[i]? = some x) (hne : e ≠ it)
    (hQ : ∀ h', IsEnumOut h' e it ((i : Int) + 1) x s.heap.objs.size → h'.IsTupleIter it l (i + 1) →
      h'.get? s.heap.objs.size = some { cls := .type "tuple", data := .seq #[.int i s.toks, x] } → h'.objs.size = s.heap.objs.size + 1 →
      (∀ b o, b ≠ e → b ≠ it → s.heap.get? b = some o → h'.get? b = some o) → Q (some (.ref s.heap.objs.size)) { s with heap := h', toks := s.toks + 1 }) :
    wpAny (model prog w) A (pyNext (.ref e)) Q E s := by
  have hT : s.TypeIs (.ref e) "enumerate" := ⟨_, he, rfl⟩
  unfold pyNext
  exact wpAny_bind (wpAny_attempt (wpAny_callSpecial?_slot (name := Str.ofString "__next__") hT PySem.F.slot_enumerate_next
    (wpAny_call_entry PySem.F.slot_enumerate_next hT PySem.F.entry_enumerate_next
      (enumNextT he hit hl hx hne fun h' a b c d k => wpAny_pure (hQ h' a b c d k)) (PySem.F.args_enumerate_next_1 _))))

theorem pyNextTEnd {e it l : Addr} {i : Nat} {items : Array Value} {old : Value} {Q : Option Value → Shared → Prop} (hh : A.handled = none)
    (he : IsEnum s.heap e it i old) (hit : s.heap.IsTupleIter it l i) (hl : s.heap.IsTuple l items) (hx : items[i]? = none)
    (hQ : ∀ h', Heap.ExtBut it s.heap h' → Q none { s with heap := h' }) : wpAny (model prog w) A (pyNext (.ref e)) Q E s := by
  have hT : s.TypeIs (.ref e) "enumerate" := ⟨_, he, rfl⟩
  unfold pyNext
  refine wpAny_bind (wpAny_attempt (wpAny_callSpecial?_slot (name := Str.ofString "__next__") hT PySem.F.slot_enumerate_next
    (wpAny_call_entry PySem.F.slot_enumerate_next hT PySem.F.entry_enumerate_next ?_ (PySem.F.args_enumerate_next_1 _))))
  show wpAny _ _ (field (.ref e) 2 >>= _) _ _ _
  refine wpAny_bind (wpAny_field he rfl (x := .ref it) rfl ?_)
  refine wpAny_bind (nextOfTEnd hh hit hl hx fun h' x he' hx' => ?_)
  obtain ⟨o, ho, hc⟩ := hx'
  refine wpAny_bind (wpAny_isInstance (T := "StopIteration") (b := true) ⟨o, ho, hc⟩ isSubtype_stop ?_)
  exact wpAny_pure (hQ _ he')

theorem walksEnumT {prog : Program} {w : World} {A : Around} (hh : A.handled = none) (e it l : Addr) (hei : e ≠ it) (hle : l ≠ e) (hli : l ≠ it) (items : Array Value) :
    WalksT prog w A e [e, it, l] [e, it] items.size
      (fun i vals => ∃ t x, items[i]? = some x ∧ vals = #[.int i t, x])
      (fun i h => (∃ old, IsEnum h e it i old) ∧ h.IsTupleIter it l i ∧ h.IsTuple l items)
      (fun i T h => (∃ x, IsEnumOut h e it ((i : Int) + 1) x T) ∧ h.IsTupleIter it l (i + 1) ∧ h.IsTuple l items ∧ T ≠ e ∧ T ≠ it) where
  sub := fun b hb => by simp at hb ⊢; rcases hb with h | h <;> simp [h]
  frame := fun i h h' hst hk => by
    obtain ⟨⟨old, he⟩, hit, hl⟩ := hst
    exact ⟨⟨old, hk e (by simp) _ he⟩, hit.at fun o x => hk it (by simp) o x, hl.at fun o x => hk l (by simp) o x⟩
  item := fun i s Q E hi hst hQ => by
    obtain ⟨⟨old, he⟩, hit, hl⟩ := hst
    have hx : items[i]? = some items[i] := Array.getElem?_eq_getElem hi
    refine pyNextT he hit hl hx hei fun h' ho hit' hT hsz hk => ?_
    have helt : e < s.heap.objs.size := Heap.lt_size he
    have hilt : it < s.heap.objs.size := by obtain ⟨_, x, _⟩ := hit; exact Heap.lt_size x
    exact hQ s.heap.objs.size #[.int i s.toks, items[i]] h' (s.toks + 1) ⟨_, _, hx, rfl⟩ (Nat.le_refl _) ⟨_, hT, rfl, _, rfl⟩
      ⟨⟨_, ho⟩, hit', hl.at fun o x => hk l o hle hli x, Nat.ne_of_gt helt, Nat.ne_of_gt hilt⟩
      fun b o hb x => hk b o (fun e' => hb (by simp [e'])) (fun e' => hb (by simp [e'])) x
  go := fun elts k pos i T s Q E hm hQ => by
    obtain ⟨⟨x, ho⟩, hit, hl, hTe, hTi⟩ := hm
    refine wpAny_letOwnedTupleGo_enum ho fun h' he' hs' => hQ h' ⟨⟨x, by simpa using he'⟩, hit.at fun o y => (hs'.2 it hei.symm).trans y, hl.at fun o y => (hs'.2 l hle).trans y⟩ fun b o hb y => ?_
    exact (hs'.2 b fun e' => hb (by simp [e'])).trans y
  apart := fun i T h hm hT => by
    obtain ⟨_, _, _, hTe, hTi⟩ := hm
    simp at hT
    rcases hT with h | h
    · exact hTe h
    · exact hTi h
  done := fun s Q E hst hQ => by
    obtain ⟨⟨old, he⟩, hit, hl⟩ := hst
    exact pyNextTEnd hh he hit hl (Array.getElem?_eq_none (Nat.le_refl _)) fun h' hx => hQ h' s.toks fun b o hb y => hx b o (fun e' => hb (by simp [e'])) y
  self := fun i s Q E hst hQ => by
    obtain ⟨⟨old, he⟩, _, _⟩ := hst
    exact wpAny_pyIter_enum he hQ

/-- a for over enumerate(a tuple of the base heap), by an invariant over the turn's number, the frame and the ledger -/
theorem forEnumT {h₀ : Heap} {env : Env} {body : List Stmt} {Q : Flow → Shared → Prop} {elts : List PySem.Expr} {k : Nat} {pos : Pos} {l : Addr} {vs : Array Value} {m : Str → Option Value} {news : List (Addr × Obj)}
    (hh : A.handled = none) (hl : h₀.IsTuple l vs) (F : Fr h₀ env.locals s.heap m) (N : News h₀ env.locals s.heap news)
    (J : Nat → (Str → Option Value) → List (Addr × Obj) → Prop) (h0 : J 0 m news)
    (step : ∀ i x t T m₁ news₁ h₁ tk₁ own wr, i < vs.size → vs[i]? = some x → J i m₁ news₁ → (∀ p ∈ news₁, p.1 ∉ wr) → (∀ p ∈ own, ∀ q ∈ news₁, p.1 ≠ q.1) → (∀ b ∈ wr, ∃ o, (b, o) ∈ own) → IsTup h₁ T #[.int i t, x] →
      Fr h₀ env.locals h₁ m₁ → News h₀ env.locals h₁ (own ++ news₁) →
      wpAny (model prog w) A (assign (.Tuple elts k pos) env (.ref T)) (fun _ s₃ => wpAny (model prog w) A (execs body env)
        (LoopStepV h₀ env.locals wr own (J (i + 1)) { s with heap := h₁, toks := tk₁ } (fun v s' => Q (.ret v) s') fun s' => Q .next s') E s₃) E { s with heap := h₁, toks := tk₁ })
    (hQ : ∀ h' tk m' news', Fr h₀ env.locals h' m' → News h₀ env.locals h' news' → J vs.size m' news' → Q .next { s with heap := h', toks := tk }) :
    wpAny (model prog w) A (call (.type "enumerate") [.ref l]) (fun xv s₁ => wpAny (model prog w) A (pyIter xv) (fun it s₂ => TurnsAt prog w A h₀ env (.Tuple elts k pos) body Q E it s₂) E s₁) E s := by
  have hls : s.heap.IsTuple l vs := hl.at fun o e => F.keep l o e
  have hlt : l < s.heap.objs.size := by obtain ⟨o, ho, _⟩ := hls; exact Heap.lt_size ho
  have hl0 : ∃ o, h₀.get? l = some o := by obtain ⟨o, ho, _⟩ := hl; exact ⟨o, ho⟩
  have hLs : env.locals < s.heap.objs.size := F.ns.lt
  have hlL : l ≠ env.locals := by
    obtain ⟨o, ho⟩ := hl0
    exact Nat.ne_of_lt (Nat.lt_of_lt_of_le (Heap.lt_size ho) F.above)
  refine enumCallT hls fun h' hE hI hsz hk => ?_
  refine wpAny_pyIter_enum hE ?_
  refine ⟨s.heap.objs.size + 1, _, _, vs.size, _, _, _, m, news, J, rfl, KTurns.ofWalksU (walksEnumT hh (s.heap.objs.size + 1) s.heap.objs.size l (Nat.succ_ne_self _) (ktu_ne 1 hlt) (Nat.ne_of_lt hlt) vs).toU, ?_, ?_, ?_, ⟨⟨.none, hE⟩, hI, hls.at fun o e => hk l o e⟩, F.keeps hk, N.grown hk, h0, ?_, ?_⟩
  · intro hI'
    have hb' : env.locals = s.heap.objs.size + 1 ∨ env.locals = s.heap.objs.size ∨ env.locals = l := by simpa using hI'
    rcases hb' with e | e | e
    · exact ktu_ne 1 hLs e
    · exact Nat.ne_of_lt hLs e
    · exact hlL e.symm
  · intro b hb
    have hb' : b = s.heap.objs.size + 1 ∨ b = s.heap.objs.size := by simpa using hb
    rcases hb' with rfl | rfl
    · exact ktu_new F (Nat.le_add_right _ _)
    · exact ktu_new F (Nat.le_refl _)
  · intro p hp hI'
    have hb' : p.1 = s.heap.objs.size + 1 ∨ p.1 = s.heap.objs.size := by simpa using hI'
    have hlp := Heap.lt_size (N p hp).1
    rcases hb' with e | e
    · exact ktu_ne 1 hlp e
    · exact Nat.ne_of_lt hlp e
  · rintro i v m₁ news₁ h₁ tk₁ own hi ⟨T, vals, rfl, ⟨t, x, hx, rfl⟩, hT⟩ hJ hoff hfp hget hin hst F₁ N₁
    refine step i x t T m₁ news₁ h₁ tk₁ own _ hi hx hJ hoff ?_ ?_ hT F₁ N₁
    · intro p hp q hq e
      have h1 := hfp p hp
      have hb' : p.1 = s.heap.objs.size + 1 ∨ p.1 = s.heap.objs.size ∨ p.1 = l := by simpa using h1
      rcases hb' with e1 | e1 | e1
      · exact hoff q hq (by rw [← e, e1]; simp)
      · exact hoff q hq (by rw [← e, e1]; simp)
      · obtain ⟨o, ho⟩ := hl0
        have := (N₁ q (List.mem_append_right _ hq)).2.2
        rw [← e, e1, ho] at this
        cases this
    · intro b hb
      obtain ⟨⟨old, he⟩, ⟨oi, hoi, _⟩, _⟩ := hst
      have hb' : b = s.heap.objs.size + 1 ∨ b = s.heap.objs.size := by simpa using hb
      rcases hb' with rfl | rfl
      · exact ⟨_, hin _ (by simp) (ktu_new F (Nat.le_add_right _ _)) _ he⟩
      · exact ⟨_, hin _ (by simp) (ktu_new F (Nat.le_refl _)) _ hoi⟩
  · intro h' tk m' news' F' N' _ hJ
    exact hQ h' tk m' news' F' N' hJ
end
end Mine
end

section
open PySem PySem.W PyProof.Rows
set_option Elab.async false
set_option maxRecDepth 100000
namespace Mine
section
variable {prog : Program} {w : World} {A : Around} {E : Value → Shared → Prop} {s : Shared} {env : Env} {h₀ : Heap} {target : PySem.Expr} {body orelse : List Stmt} {Q : Flow → Shared → Prop}
inductive FEI (s : Shared) (h₀ : Heap) (L : Addr) (wr : List Addr) (n : Nat) (St : Nat → Heap → Prop) (J : Nat → (Str → Option Value) → List (Addr × Obj) → Prop) : Nat → Shared → Prop
  | mk {h' : Heap} {tk : Nat} {m' : Str → Option Value} {news' : List (Addr × Obj)} {i : Nat} (hle : s.toks ≤ tk) (hst : St i h') (F : Fr h₀ L h' m') (N : News h₀ L h' news') (hnw : ∀ p ∈ news', p.1 ∉ wr) (hJ : J i m' news') (hi : i ≤ n) : FEI s h₀ L wr n St J (n + 1 - i) { s with heap := h', toks := tk }
/-- a for (with an else) by an invariant over the turn's number, the frame and the ledger; the iterator by KTurns -/
theorem forElseCode {R : Result → Shared → Prop} {I : Addr} {fp wr : List Addr} {n : Nat} {P Md : Nat → Value → Heap → Prop} {St : Nat → Heap → Prop} {m : Str → Option Value} {news : List (Addr × Obj)} (W : KTurns prog w A target I fp wr n P Md St)
    (hLf : env.locals ∉ fp) (hwr : ∀ b ∈ wr, h₀.get? b = none) (hnw : ∀ p ∈ news, p.1 ∉ wr) (hst : St 0 s.heap) (F : Fr h₀ env.locals s.heap m) (N : News h₀ env.locals s.heap news)
    (J : Nat → (Str → Option Value) → List (Addr × Obj) → Prop) (h0 : J 0 m news)
    (step : ∀ i v m₁ news₁ h₁ tk₁ own, s.toks ≤ tk₁ → i < n → P i v h₁ → J i m₁ news₁ → (∀ p ∈ news₁, p.1 ∉ wr) → (∀ p ∈ own, p.1 ∈ fp) → (∀ b ∈ fp, h₀.get? b = none → ∀ o, h₁.get? b = some o → (b, o) ∈ own) → St (i + 1) h₁ →
      Fr h₀ env.locals h₁ m₁ → News h₀ env.locals h₁ (own ++ news₁) →
      wpAny (model prog w) A (assign target env v) (fun _ s₂ => wpAny (model prog w) A (execs body env)
        (LoopStepV h₀ env.locals wr own (J (i + 1)) { s with heap := h₁, toks := tk₁ } (fun v s' => R (.ok (.ret v)) s') fun s' => R (.ok .next) s') (notedBy (model prog w) A env fun e s' => R (.error e) s') s₂) (notedBy (model prog w) A env fun e s' => R (.error e) s') { s with heap := h₁, toks := tk₁ })
    (hR : ∀ h' tk m' news', s.toks ≤ tk → Fr h₀ env.locals h' m' → News h₀ env.locals h' news' → (∀ p ∈ news', p.1 ∉ wr) → J n m' news' →
      wpAny (model prog w) A (execs orelse env) (fun f s₃ => R (.ok f) s₃) (notedBy (model prog w) A env fun e s' => R (.error e) s') { s with heap := h', toks := tk }) :
    codeAny (model prog w) A (.forLoop target (.ref I) body orelse env) R s := by
  have hLw : env.locals ∉ wr := fun h => hLf (W.sub _ h)
  have old : ∀ b o, h₀.get? b = some o → b ∉ wr := fun b o e hb => by rw [hwr b hb] at e; cases e
  refine codeAny_forLoop_any
    (FEI s h₀ env.locals wr n St J) ?_ (n + 1) (.mk (i := 0) (Nat.le_refl _) hst F N hnw h0 (Nat.zero_le _))
  rintro _ _ ⟨hle, hst', F', N', hnw', hJ, hi⟩
  rename_i h' tk m' news' i
  have next : ∀ h₁ : Heap, (∀ b o, b ∉ wr → h'.get? b = some o → h₁.get? b = some o) → Fr h₀ env.locals h₁ m' ∧ News h₀ env.locals h₁ news' := fun h₁ hk₁ =>
    ⟨⟨F'.ns.at' fun o e => hk₁ _ o hLw e, fun b o e => hk₁ b o (old b o e) (F'.keep b o e), F'.above⟩, fun p hp => ⟨hk₁ _ _ (hnw' p hp) (N' p hp).1, (N' p hp).2⟩⟩
  by_cases hlt : i < n
  · refine wpAny_toks (W.item i _ _ _ hlt hst' fun v h₁ tk₁ hMd hk₁ hle₁ => ?_)
    have hle₁' : s.toks ≤ tk₁ := Nat.le_trans hle hle₁
    refine W.go i v _ _ _ hMd fun h₂ hP hst₂ hk₂ => ?_
    obtain ⟨F₂, N₂⟩ := next h₂ fun b o hb x => hk₂ b o hb (hk₁ b o hb x)
    have Nown : News h₀ env.locals h₂ (PyProof.Rows.ownOf h₀ fp h₂) := news_ownOf hLf
    have fin : ∀ s₃, tk₁ ≤ s₃.toks → LoopStepU h₀ env.locals wr (PyProof.Rows.ownOf h₀ fp h₂) (J (i + 1)) { s with heap := h₂, toks := tk₁ } .next s₃ →
        ∃ k', k' < n + 1 - i ∧ FEI s h₀ env.locals wr n St J k' s₃ := by
      rintro s₃ hle₃ ⟨_, h₃', tk₃, m₂, news₂, rfl, F₃, N₃, ha₃, hJ₃⟩
      refine ⟨n + 1 - (i + 1), Nat.sub_succ_lt_self (n + 1) i (Nat.lt_succ_of_lt hlt), .mk (i := i + 1) (Nat.le_trans hle₁' hle₃) ?_ F₃ N₃.right ha₃ hJ₃ hlt⟩
      refine W.frame _ _ _ hst₂ fun b hb o e => ?_
      cases hn : h₀.get? b with
      | some o₀ =>
        have : o₀ = o := by have q := F₂.keep b o₀ hn; rw [e] at q; exact (Option.some.inj q).symm
        exact this ▸ F₃.keep b o₀ hn
      | none => exact (N₃ _ (List.mem_append_left _ (mem_ownOf hb hn e))).1
    refine wpAny_toks (wpAny_mono (step i v m' news' h₂ tk₁ (PyProof.Rows.ownOf h₀ fp h₂) hle₁' hlt hP hJ hnw' ownOf_sub (fun b hb hn o e => mem_ownOf hb hn e) hst₂ F₂ (Nown.append N₂)) (fun _ s₂ h₂' hle₂ => wpAny_toks (wpAny_mono h₂' (fun f s₃ h₃ hle₃ => ?_) fun _ _ e _ => e)) fun _ _ e _ => e)
    have hle₄ : tk₁ ≤ s₃.toks := Nat.le_trans hle₂ hle₃
    cases f with
    | ret v => exact h₃
    | brk => exact h₃
    | cont => exact fin _ hle₄ h₃
    | next => exact fin _ hle₄ h₃
  · have hin : i = n := Nat.le_antisymm hi (Nat.le_of_not_lt hlt)
    subst hin
    refine wpAny_toks (W.done _ _ _ hst' fun h₁ tk₁ hk₁ hle₁ => ?_)
    obtain ⟨F₁, N₁⟩ := next h₁ hk₁
    exact hR h₁ tk₁ m' news' (Nat.le_trans hle hle₁) F₁ N₁ hnw' hJ

/-- the loop's code behind its iterator -/
def ElseAt (prog : Program) (w : World) (A : Around) (env : Env) (target : PySem.Expr) (body orelse : List Stmt) (Q : Flow → Shared → Prop) (E : Value → Shared → Prop) (it : Value) (s₂ : Shared) : Prop :=
  codeAny (model prog w) A (.forLoop target it body orelse env) (fun r s' => match r with | .ok f => Q f s' | .error e => cameBackBy (model prog w) A env E e s') s₂
theorem forElse {iter : PySem.Expr} {pos : Pos}
    (h : wpAny (model prog w) A (eval iter env) (fun xv s₁ => wpAny (model prog w) A (pyIter xv) (fun it s₂ => ElseAt prog w A env target body orelse Q E it s₂) E s₁) E s)
    (hs : ∀ x, foldedSetIterable iter env x = pure x := by intro _; rfl) : wpAny (model prog w) A (exec (.For target iter body orelse pos) env) Q E s := wpAny_For h hs
/-- over a tuple of the base heap -/
theorem tupElse {l : Addr} {vs : Array Value} {m : Str → Option Value} {news : List (Addr × Obj)}
    (hh : A.handled = none) (hl : h₀.IsTuple l vs)
    (F : Fr h₀ env.locals s.heap m) (N : News h₀ env.locals s.heap news)
    (J : Nat → (Str → Option Value) → List (Addr × Obj) → Prop) (h0 : J 0 m news)
    (step : ∀ i x m₁ news₁ h₁ tk₁ own wr, i < vs.size → vs[i]? = some x → J i m₁ news₁ → (∀ p ∈ news₁, p.1 ∉ wr) → (∀ p ∈ own, ∀ q ∈ news₁, p.1 ≠ q.1) → (∀ b ∈ wr, ∃ o, (b, o) ∈ own) →
      Fr h₀ env.locals h₁ m₁ → News h₀ env.locals h₁ (own ++ news₁) →
      wpAny (model prog w) A (assign target env x) (fun _ s₃ => wpAny (model prog w) A (execs body env)
        (LoopStepV h₀ env.locals wr own (J (i + 1)) { s with heap := h₁, toks := tk₁ } (fun v s' => Q (.ret v) s') fun s' => Q .next s') E s₃) E { s with heap := h₁, toks := tk₁ })
    (hQ : ∀ h' tk m' news', Fr h₀ env.locals h' m' → News h₀ env.locals h' news' → J vs.size m' news' → wpAny (model prog w) A (execs orelse env) Q E { s with heap := h', toks := tk })
    (hE : PassesOwn (model prog w) A env E := by passes_own) :
    wpAny (model prog w) A (pyIter (.ref l)) (fun it s₂ => ElseAt prog w A env target body orelse Q E it s₂) E s := by
  have hls : s.heap.IsTuple l vs := hl.at fun o e => F.keep l o e
  have hlt : l < s.heap.objs.size := by obtain ⟨o, ho, _⟩ := hls; exact Heap.lt_size ho
  have hl0 : ∃ o, h₀.get? l = some o := by obtain ⟨o, ho, _⟩ := hl; exact ⟨o, ho⟩
  have hLs : env.locals < s.heap.objs.size := F.ns.lt
  have hlL : l ≠ env.locals := by
    obtain ⟨o, ho⟩ := hl0
    exact Nat.ne_of_lt (Nat.lt_of_lt_of_le (Heap.lt_size ho) F.above)
  refine wpAny_pyIter_tuple hls ?_
  refine forElseCode
    (KTurns.ofWalks (Walks.tuple hh s.heap.objs.size l (Nat.ne_of_lt hlt) vs) fun i v s Q E st q => letGo_tupleiter st.1 q) ?_ ?_ ?_ ?_ (F.push _) (fun p hp => ⟨Heap.get?_push_of_some _ (N p hp).1, (N p hp).2⟩) J h0 ?_ ?_
  · intro hI'
    have hb' : env.locals = s.heap.objs.size ∨ env.locals = l := by simpa using hI'
    rcases hb' with e | e
    · exact Nat.ne_of_lt hLs e
    · exact hlL e.symm
  · intro b hb
    have hb' : b = s.heap.objs.size := by simpa using hb
    subst hb'
    exact next_is_new F
  · intro p hp hI'
    have hb' : p.1 = s.heap.objs.size := by simpa using hI'
    exact Nat.ne_of_lt (Heap.lt_size (N p hp).1) hb'
  · exact ⟨⟨_, Heap.get?_push_size _ rfl, rfl, rfl⟩, hls.at fun o e => Heap.get?_push_of_some _ e⟩
  · rintro i v m₁ news₁ h₁ tk₁ own _ hi hx hJ hoff hfp hin hst F₁ N₁
    refine wpAny_mono (step i v m₁ news₁ h₁ tk₁ own _ hi hx hJ hoff ?_ ?_ F₁ N₁) (fun _ _ x => wpAny_passesOwn hE x) hE
    · intro p hp q hq e
      have h1 := hfp p hp
      have hb' : p.1 = s.heap.objs.size ∨ p.1 = l := by simpa using h1
      rcases hb' with e1 | e1
      · exact hoff q hq (by rw [← e, e1]; simp)
      · obtain ⟨o, ho⟩ := hl0
        have := (N₁ q (List.mem_append_right _ hq)).2.2
        rw [← e, e1, ho] at this
        cases this
    · intro b hb
      obtain ⟨⟨oi, hoi, _⟩, _⟩ := hst
      have hb' : b = s.heap.objs.size := by simpa using hb
      subst hb'
      exact ⟨_, hin _ (by simp) (next_is_new F) _ hoi⟩
  · intro h' tk m' news' _ F' N' _ hJ
    exact wpAny_passesOwn hE (hQ h' tk m' news' F' N' hJ)
end
end Mine
end

section
theorem Mine.fresh_P3 : True := by
  w_top off
  k_with_none
  trivial
open PySem PySem.W PyProof.Rows
set_option Elab.async false
set_option maxRecDepth 100000
set_option maxHeartbeats 8000000
set_option pp.deepTerms.threshold 3
set_option pp.deepTerms false
set_option pp.proofs.threshold 2
namespace Mine
local macro_rules | `(tactic| k_upd) => `(tactic| (refine' updApp ?a ?b; (case a => assumption); (case b => k_upd)))
/-- between the turns of filemode's outer loop -/
def FmJ (n : Int) (tx : Tok) (i : Nat) (m : Str → Option Value) (nx : List (Addr × Obj)) : Prop :=
  ∃ (pa : Addr) (vs : List Value) (nn : Nat), nx = [(pa, W.listOf vs.toArray nn)] ∧ StrsAre vs (fmList n i) ∧ m (Str.ofString "mode") = some (.int n tx) ∧ m (Str.ofString "perm") = some (.ref pa)
/-- between the turns of the inner loop: no entry before has hit -/
def FmI (n : Int) (tx : Tok) (pa : Addr) (nx₀ : List (Addr × Obj)) (idx : Nat) (ti : Tok) (es : List (Int × Str)) (j : Nat) (m : Str → Option Value) (nx : List (Addr × Obj)) : Prop :=
  nx = nx₀ ∧ (∀ e ∈ es.take j, fmHit idx n e.1 = false) ∧ m (Str.ofString "mode") = some (.int n tx) ∧ m (Str.ofString "perm") = some (.ref pa) ∧ m (Str.ofString "index") = some (.int idx ti)
theorem fmJ_push {n : Int} {tx : Tok} {i : Nat} {m : Str → Option Value} {pa : Addr} {vs : List Value} {nn : Nat} {c : Str} {t : Tok} (hvs : StrsAre vs (fmList n i)) (hc : fmCh n i = c)
    (h1 : m (Str.ofString "mode") = some (.int n tx)) (h2 : m (Str.ofString "perm") = some (.ref pa)) : FmJ n tx (i + 1) m [(pa, W.listOf (vs.toArray.push (.str c t)) nn)] :=
  ⟨pa, vs ++ [.str c t], nn, by rw [List.push_toArray], fm_push hvs hc, h1, h2⟩
theorem fm_else {n : Int} {i : Nat} {es : List (Int × Str)} {k : Nat} (hes : fmTabs[i]? = some es) (hk : k = es.length) (hno : ∀ e ∈ es.take k, fmHit i n e.1 = false) : fmCh n i = if i = 0 then ⟨#[63]⟩ else ⟨#[45]⟩ := by
  rw [fmCh_of hes]
  refine fm_none fun e he => hno e ?_
  rw [hk, List.take_length]; exact he
theorem fmode (w : World) (loose : List Str) (mean : ExcName → Option Value) (mg mb : Str → Option Value)
   (dp un : Nat) (gd : Option (List Code)) (cn : Str) (cs : Scope) (a : Addr) (ccd : Value) (cl : List (Str × Addr)) (outer : List Env) (A₀ : Around) (base h₀ : Heap) (L : Addr) (m : Str → Option Value) (s : Shared) (n : Int) (tx : Tok)
    (Q E : Value → Shared → Prop) (B : Below A₀ base outer h₀) (F : Fr h₀ L s.heap m) (X : (hd.heap_39 w.params).In h₀) (T : Top hd.view_39 loose mean mg mb h₀) (hk : cs.kind = .function)
    (hd1 : dp + 20 < recursionLimit)
    (hret : ∀ t h' tk', Kp s.heap h' → Q (.str (fm n) t) { s with heap := h', toks := tk' }) :
    wpAny (model PySem.Challenge.rw_om0036_01.row.prog w) (ktrTop dp un gd cn cs L a ccd cl outer) (call (.ref 93) [.int n tx]) Q E s := by
  revert X
  k_fill
  intro X
  refine wpAny_call ?_
  k_dflt (refine' code_defG ?k1 ?k2 ?k3 ?k4 ?k5 ?kA ?kF ?kK ?k6 ?k7 ?k8 ?k9 ?kB ?_ ?c2 ?c3 ?c4 ?c5; (case kA => exact rfl); (case kF => exact rfl); (case kK => assumption); (case k1 => k_asm); (case k2 => k_asm); (case k3 => k_asm); (case k4 => exact News.nil); (case k5 => k_asm); (case k6 => k_is); (case k7 => k_is); (case k8 => ktr_room); (case k9 => exact BindsTo.of_eq rfl); (case c5 => decide); (case kB => exact locs rfl); (case c2 => exact rfl); (case c3 => exact rfl); (case c4 => exact rfl); k_whole; intro g' L' h' FG' F' N' B' X' T' GS'; (try dsimp only); (try k_fold))
  k_with "exec For Tuple Call" => ((rename Fr _ _ _ _ => lF'); (with_unfolding_all refine' For_turns lF' ?_))
  k_steps
  rename Fr _ _ _ _ => fF
  rename News _ _ _ _ => fN
  rename Frag.In _ _ => fX
  refine' forEnumT ?hh ?hl ?hF ?hN (FmJ n tx) ?h0 ?step ?hQ
  case hh => rfl
  case hl => exact (fm_tabs fX).1
  case hF => exact fF
  case hN => exact fN
  case h0 => exact ⟨_, [], _, rfl, StrsAre.nil, rfl, rfl⟩
  case step =>
    rintro i x t T m₁ _ h₁ tk₁ own wr hi hx ⟨pa, vs, nn, rfl, hvs, hm1, hm2⟩ hoff hown hwr hT F₁ N₁
    have F₁' := fr2 (ps := [(Str.ofString "mode", Value.int n tx), (Str.ofString "perm", Value.ref pa)]) F₁ (by simp [hm1, hm2])
    have hown' : ∀ p ∈ own, p.1 ≠ pa := fun p hp => hown p hp _ (.head _)
    have hwr1 : pa ∉ wr := hoff _ (.head _)
    have hlen : vs.toArray.size ≤ 10 := by
      have h1 := hvs.length
      rw [fmList_length] at h1
      have h2 : i < 10 := hi
      rw [List.size_toArray]; omega
    clear F₁ fF fN
    obtain ⟨es, hes, ta, avs, rfl, hta, hents⟩ := (fm_tabs fX).2.get (i := i) (v := x) (by simpa using hx)
    k_with "exec For Tuple Name" => refine' forElse ?_
    k_steps
    rename Fr _ _ _ _ => fF
    rename News _ _ _ _ => fN
    refine' tupElse ?hh ?hl ?hF ?hN (FmI n tx pa (own ++ [(pa, W.listOf vs.toArray nn)]) i t es) ?h0 ?stp ?hQQ
    case hh => rfl
    case hl => exact hta
    case hF => exact fF
    case hN => exact fN
    case h0 => exact ⟨rfl, by simp, rfl, rfl, rfl⟩
    case stp =>
      rintro j x m₂ _ h₂ tk₂ own₂ wr₂ hj hx2 ⟨rfl, hno, hq1, hq2, hq3⟩ hoff2 hown2 hwr2 F₂ N₂
      have F₂' := fr2 (ps := [(Str.ofString "mode", Value.int n tx), (Str.ofString "perm", Value.ref pa), (Str.ofString "index", Value.int i t)]) F₂ (by simp [hq1, hq2, hq3])
      have hown2' : ∀ p ∈ own₂, p.1 ≠ pa := fun p hp => hown2 p hp _ (List.mem_append_right _ (.head _))
      obtain ⟨e, he, ea, t1, u1, rfl, hea⟩ := hents.get (i := j) (v := x) (by simpa using hx2)
      have hea' : IsTup h₂ ea #[Value.int e.1 t1, Value.str e.2 u1] := hea.imp fun o ho => ⟨F₂'.keep _ o ho.1, ho.2⟩
      clear F₂ fF fN
      k_with "call ref" => (refine' sifmt _ _ _ _ _ _ _ _ _ _ _ _ _ _ _ _ _ _ _ _ _ _ _ _ ?a1 ?a2 ?a3 ?a4 ?a5 ?a6 ?a7; (case a1 => k_asm); (case a2 => k_asm); (case a3 => k_asm); (case a4 => k_asm); (case a5 => rfl); (case a6 => ktr_room); intro t' h' tk' kp'; (have F' := Kp.fr (by k_asm) kp'); (have N' := News.grown (by k_asm) kp'); clear kp')
      by_cases hi0 : i = 0
      · subst hi0
        k_steps
        · dsimp only [LoopStepV]
          k_steps
          exact LoopStepU.intro (by assumption) (News.right (by assumption)) (by simpa using hwr1) (fmJ_push hvs ((fmCh_of hes).trans (fm_hit (by simp only [fmHit, if_true, decide_eq_true_eq]; assumption) hno he)) rfl rfl)
        · exact LoopStepU.intro (by assumption) (by assumption) hoff2 ⟨rfl, fm_no hno he (by simp only [fmHit, if_true, decide_eq_false_iff_not]; assumption), rfl, rfl, rfl⟩
      · have hi1 : (i : Int) ≠ 0 := by omega
        k_steps
        · exact absurd (by assumption) hi1
        · dsimp only [LoopStepV]
          k_steps
          exact LoopStepU.intro (by assumption) (News.right (by assumption)) (by simpa using hwr1) (fmJ_push hvs ((fmCh_of hes).trans (fm_hit (by simp only [fmHit, if_neg hi0, decide_eq_true_eq]; assumption) hno he)) rfl rfl)
        · exact LoopStepU.intro (by assumption) (by assumption) hoff2 ⟨rfl, fm_no hno he (by simp only [fmHit, if_neg hi0, decide_eq_false_iff_not]; assumption), rfl, rfl, rfl⟩
    case hQQ =>
      rintro h₂ tk₂ m₂ _ F₂ N₂ ⟨rfl, hno, hq1, hq2, hq3⟩
      have F₂' := fr2 (ps := [(Str.ofString "mode", Value.int n tx), (Str.ofString "perm", Value.ref pa), (Str.ofString "index", Value.int i t)]) F₂ (by simp [hq1, hq2, hq3])
      clear F₂ fF fN
      by_cases hi0 : i = 0
      · subst hi0
        k_steps
        exact LoopStepU.intro (by assumption) (by assumption) (by simpa using hwr1) (fmJ_push hvs ((fm_else hes (by simpa using hents.length) hno).trans (by decide +kernel)) rfl rfl)
      · have hi1 : (i : Int) ≠ 0 := by omega
        k_steps
        · exact absurd (by assumption) hi1
        · exact LoopStepU.intro (by assumption) (by assumption) (by simpa using hwr1) (fmJ_push hvs ((fm_else hes (by simpa using hents.length) hno).trans (by rw [if_neg hi0]; decide +kernel)) rfl rfl)
  case hQ =>
    rintro h₁ tk₁ m₁ _ F₁ N₁ ⟨pa, vs, nn, rfl, hvs, hm1, hm2⟩
    have F₁' := fr2 (ps := [(Str.ofString "mode", Value.int n tx), (Str.ofString "perm", Value.ref pa)]) F₁ (by simp [hm1, hm2])
    clear F₁ fF fN
    k_with "call builtin:str.join" => (refine' join_listC ?j1 ?j2 ?j3 ?j4 ?_; (case j1 => is_list); (case j2 => exact hvs); (case j3 => decide +kernel); (case j4 => (rw [fmList_sum, fmList_length]; decide)); intro t' k')
    k_steps
    exact hret _ _ _ (.of (by assumption) (by assumption))
end Mine
end

section
open PySem PySem.W PyProof.Rows
set_option Elab.async false
set_option maxRecDepth 100000
namespace Mine
theorem fm_len (n : Int) : (fm n).length = 10 := by
  have h := PySem.W.KT.join_ones (fmList n 10) (by
    intro a ha
    obtain ⟨i, _, rfl⟩ := List.mem_map.mp ha
    exact fmCh_len n i)
  rw [fmList_length] at h
  exact h
theorem ll0 : (Str.ofString "550").length = 3 := by decide +kernel
theorem ll1 : (Str.ofString "157").length = 3 := by decide +kernel
theorem ll2 : (Str.ofString "227").length = 3 := by decide +kernel
theorem ll3 : (Str.ofString "256").length = 3 := by decide +kernel
theorem ll4 : (Str.ofString "257").length = 3 := by decide +kernel
theorem ll5 : (Str.ofString " \"").length = 2 := by decide +kernel
theorem ll6 : (Str.ofString " -\"").length = 3 := by decide +kernel
theorem ll7 : (Str.ofString "-\"").length = 2 := by decide +kernel
theorem ll8 : (Str.ofString "  \"").length = 3 := by decide +kernel
theorem ll9 : (Str.ofString "\"").length = 1 := by decide +kernel
theorem ll10 : (Str.ofString "\" ").length = 2 := by decide +kernel
theorem ll11 : (Str.ofString "").length = 0 := by decide +kernel
/-- the reply, as _law_reply writes it -/
def rpCode (kind more : Int) : Str := if kind = 6 then (if more.fmod 4 = 0 then Str.ofString "550" else if more.fmod 4 = 1 then Str.ofString "157" else if more.fmod 4 = 2 then Str.ofString "227" else Str.ofString "256") else Str.ofString "257"
def rpHead (kind more : Int) : Str := if kind = 5 then (if more.fmod 3 = 0 then Str.ofString " -\"" else if more.fmod 3 = 1 then Str.ofString "-\"" else Str.ofString "  \"") else Str.ofString " \""
def rpTail (kind bits : Int) : Str := if kind = 4 then Str.ofString "" else if kind = 3 then Str.ofString "\"" else Str.ofString "\" " ++ fm bits
def rp (kind : Int) (name : Str) (bits more : Int) : Str := rpCode kind more ++ rpHead kind more ++ Txt.replace name (Str.ofString "\"") (Str.ofString "\"\"") ++ rpTail kind bits
theorem toQ {Q : Value → Shared → Prop} {x y : Str} {t : Tok} {st : Shared} (e : x = y) (h : Q (.str x t) st) : Q (.str y t) st := e ▸ h
section
variable {name : Str} {bits more kind : Int}
theorem rp60 (h : more.fmod 4 = 0) : rp 6 name bits more = Str.ofString "550" ++ Str.ofString " \"" ++ Txt.replace name (Str.ofString "\"") (Str.ofString "\"\"") ++ (Str.ofString "\" " ++ fm bits) := by simp [rp, rpCode, rpHead, rpTail, h]
theorem rp61 (h : more.fmod 4 = 1) : rp 6 name bits more = Str.ofString "157" ++ Str.ofString " \"" ++ Txt.replace name (Str.ofString "\"") (Str.ofString "\"\"") ++ (Str.ofString "\" " ++ fm bits) := by simp [rp, rpCode, rpHead, rpTail, h]
theorem rp62 (h : more.fmod 4 = 2) : rp 6 name bits more = Str.ofString "227" ++ Str.ofString " \"" ++ Txt.replace name (Str.ofString "\"") (Str.ofString "\"\"") ++ (Str.ofString "\" " ++ fm bits) := by simp [rp, rpCode, rpHead, rpTail, h]
theorem rp63 (h : more.fmod 4 = 3) : rp 6 name bits more = Str.ofString "256" ++ Str.ofString " \"" ++ Txt.replace name (Str.ofString "\"") (Str.ofString "\"\"") ++ (Str.ofString "\" " ++ fm bits) := by simp [rp, rpCode, rpHead, rpTail, h]
theorem rp50 (h : more.fmod 3 = 0) : rp 5 name bits more = Str.ofString "257" ++ Str.ofString " -\"" ++ Txt.replace name (Str.ofString "\"") (Str.ofString "\"\"") ++ (Str.ofString "\" " ++ fm bits) := by simp [rp, rpCode, rpHead, rpTail, h]
theorem rp51 (h : more.fmod 3 = 1) : rp 5 name bits more = Str.ofString "257" ++ Str.ofString "-\"" ++ Txt.replace name (Str.ofString "\"") (Str.ofString "\"\"") ++ (Str.ofString "\" " ++ fm bits) := by simp [rp, rpCode, rpHead, rpTail, h]
theorem rp52 (h : more.fmod 3 = 2) : rp 5 name bits more = Str.ofString "257" ++ Str.ofString "  \"" ++ Txt.replace name (Str.ofString "\"") (Str.ofString "\"\"") ++ (Str.ofString "\" " ++ fm bits) := by simp [rp, rpCode, rpHead, rpTail, h]
theorem rp4 : rp 4 name bits more = Str.ofString "257" ++ Str.ofString " \"" ++ Txt.replace name (Str.ofString "\"") (Str.ofString "\"\"") ++ Str.ofString "" := by simp [rp, rpCode, rpHead, rpTail]
theorem rp3 : rp 3 name bits more = Str.ofString "257" ++ Str.ofString " \"" ++ Txt.replace name (Str.ofString "\"") (Str.ofString "\"\"") ++ Str.ofString "\"" := by simp [rp, rpCode, rpHead, rpTail]
theorem rpo (h6 : kind ≠ 6) (h5 : kind ≠ 5) (h4 : kind ≠ 4) (h3 : kind ≠ 3) : rp kind name bits more = Str.ofString "257" ++ Str.ofString " \"" ++ Txt.replace name (Str.ofString "\"") (Str.ofString "\"\"") ++ (Str.ofString "\" " ++ fm bits) := by simp [rp, rpCode, rpHead, rpTail, h6, h5, h4, h3]
end
end Mine
end

section
open PySem PySem.W PyProof.Rows PySem.Calls
set_option Elab.async false
set_option maxRecDepth 100000
set_option linter.all false
set_option maxHeartbeats 1000000
set_option pp.deepTerms.threshold 8
set_option pp.deepTerms false
set_option pp.proofs.threshold 2
namespace Mine
section
variable {prog : Program} {w : World} {A : Around} {h₀ : Heap} {L : Addr} {env : Env} {P : Ldg → Heap → Prop}
theorem add_sD {x y : Str} (hsz : x.length + y.length ≤ sizeLine) : BinD prog w A L .Add (.str x) (.str y) (.str (x ++ y)) := ⟨fun s G m v₁ v₂ Q E _ l _ _ d₁ d₂ k => (by
  (first | (apply dInt (v := v₁) d₁; intro _) | (apply dStr (v := v₁) d₁; intro _) | apply dBool (v := v₁) d₁ | apply dNone (v := v₁) d₁); (first | (apply dInt (v := v₂) d₂; intro _) | (apply dStr (v := v₂) d₂; intro _) | apply dBool (v := v₂) d₂ | apply dNone (v := v₂) d₂); exact PyProof.Rows.add_str (fun t' tk => k _ _ tk G (.rfl' l) (.str _ _)) hsz)⟩
theorem meth_eq2 {nm meth : Str} {p1 ap pos : Pos} {a1 a2 : PySem.Expr} (hp : (ap.endLine == pos.line) = true) (hst : starEach [a1, a2] env = [(false, eval a1 env), (false, eval a2 env)] := by rfl) : eval (.Call (.Attribute (.Name nm p1) meth ap) [a1, a2] [] pos) env = (do
      let ov ← eval (.Name nm p1) env
      standAt ap.atName
      let (f, first) ← holding [ov] (getMethod ov meth (do return (← importBound (.Name nm p1) env).getD true))
      callWith pos f first (backTo pos (starEach [a1, a2] env)) []) := by
  show (do
    let ov ← eval (.Name nm p1) env
    standAt ap.atName
    methodCall (.Name nm p1) meth ap pos env ov 2 (backTo pos (starEach [a1, a2] env)) []) = _
  unfold methodCall
  rw [hst]
  have e1 : methodCallForm 2 (backTo pos [(false, eval a1 env), (false, eval a2 env)]) [] = true := rfl
  rw [e1]
  have e2 : methodCallPos true (.Name nm p1) env ap pos = pure pos := by
    unfold methodCallPos
    rw [hp]; rfl
  rw [e2]
  rfl
theorem tokNe {a : Tok} (h : 0 < a) : a ≠ 0 := Nat.ne_of_gt h
theorem tokNe2 {a : Tok} : a ≠ a + 1 := Nat.ne_of_lt (Nat.lt_succ_self _)
/-- name.replace(y, z) -/
theorem Ev.replaceC {nm : Str} {np ap cp q1 q2 : Pos} {c1 c2 : Nat} {x y z : Str} (h0 : Ev prog w A L env P (.Name nm np) (.str x)) (hyz : (y == z) = false) (hx : x.length ≤ 1048576) (hz : z.length ≤ 14) (hpos : (ap.endLine == cp.line) = true) :
    Ev prog w A L env P (.Call (.Attribute (.Name nm np) (Str.ofString "replace") ap) [.Constant (.str y) c1 q1, .Constant (.str z) c2 q2] [] cp) (.str (Txt.replace x y z)) := Ev.of fun s G Q E hp hP hl k => by
  refine MethodCall_ (h0.run _ G _ _ hp hP hl fun v h' tk G' hp' yx dv => ?_) (meth_eq2 hpos)
  apply dStr (v := v) dv; intro t
  refine GM.replace ?_
  refine callWith_method1 ?_ rfl rfl
  refine wpAny_items_cons (wpAny_Constant_str ?_) rfl
  refine wpAny_items_cons (wpAny_Constant_str ?_) rfl
  refine wpAny_items_nil ?_
  exact SC.replaceW (tokNe hp') (tokNe (Nat.succ_pos _)) tokNe2 hyz hx hz fun t' k' => k _ h' k' G' yx (.str _ _)
end
theorem ffm (bits : Int) : FnD 93 3 [.int bits] (.str (fm bits)) := by
  constructor
  intro w loose mean mg mb dp un gd cn cs a ccd cl outer A₀ base h₀ L m s G vs Q E B X T hk hd1 hu F htk hl dvs k
  apply daCons (vs := vs) dvs; intro v1 vs_1 d1 r
  apply daNil (vs := vs_1) r; apply dInt (v := v1) d1; intro _
  exact fmode w loose mean mg mb dp un gd cn cs a ccd cl outer A₀ base h₀ L m s bits _ Q E B F X T hk (by omega) fun t h' tk' kp => k _ h' tk' G kp (fun _ q => q) (fun _ q => .inl q) (fun p hp => kp _ _ (hl p hp)) (.str _ _)
end Mine
end

section
open PySem PySem.W PyProof.Rows PySem.Calls
set_option Elab.async false
set_option maxRecDepth 100000
set_option linter.all false
set_option maxHeartbeats 1000000
set_option pp.deepTerms.threshold 8
set_option pp.deepTerms false
set_option pp.proofs.threshold 2
namespace Mine
theorem code_len (kind more : Int) : (rpCode kind more).length ≤ 10 := by unfold rpCode; split <;> (try split) <;> (try split) <;> (try split) <;> decide +kernel
theorem head_len (kind more : Int) : (rpHead kind more).length ≤ 10 := by unfold rpHead; split <;> (try split) <;> (try split) <;> decide +kernel
theorem fm4 (m : Int) : m.fmod 4 = 0 ∨ m.fmod 4 = 1 ∨ m.fmod 4 = 2 ∨ m.fmod 4 = 3 := by
  obtain ⟨n, h⟩ := Int.eq_ofNat_of_zero_le (Int.fmod_nonneg_of_pos m (show (0 : Int) < 4 by decide))
  have g : n < 4 := Int.ofNat_lt.mp (h ▸ Int.fmod_lt_of_pos m (show (0 : Int) < 4 by decide))
  rw [h]
  rcases n with _ | _ | _ | _ | n
  · exact .inl rfl
  · exact .inr (.inl rfl)
  · exact .inr (.inr (.inl rfl))
  · exact .inr (.inr (.inr rfl))
  · exact absurd g (Nat.not_lt.mpr (Nat.le_add_left 4 n))
theorem fm3 (m : Int) : m.fmod 3 = 0 ∨ m.fmod 3 = 1 ∨ m.fmod 3 = 2 := by
  obtain ⟨n, h⟩ := Int.eq_ofNat_of_zero_le (Int.fmod_nonneg_of_pos m (show (0 : Int) < 3 by decide))
  have g : n < 3 := Int.ofNat_lt.mp (h ▸ Int.fmod_lt_of_pos m (show (0 : Int) < 3 by decide))
  rw [h]
  rcases n with _ | _ | _ | n
  · exact .inl rfl
  · exact .inr (.inl rfl)
  · exact .inr (.inr rfl)
  · exact absurd g (Nat.not_lt.mpr (Nat.le_add_left 3 n))
theorem code_at (more : Int) : ([Dat.str (Str.ofString "550"), .str (Str.ofString "157"), .str (Str.ofString "227"), .str (Str.ofString "256")])[(more.fmod 4).toNat]? = some (.str (rpCode 6 more)) := by
  unfold rpCode
  rcases fm4 more with e | e | e | e <;> rw [e] <;> rfl
theorem head_at (more : Int) : ([Dat.str (Str.ofString " -\""), .str (Str.ofString "-\""), .str (Str.ofString "  \"")])[(more.fmod 3).toNat]? = some (.str (rpHead 5 more)) := by
  unfold rpHead
  rcases fm3 more with e | e | e <;> rw [e] <;> rfl
theorem frep {kind bits more : Int} {name : Str} (hname : name.length ≤ 8) (hrep : (Txt.replace name (Str.ofString "\"") (Str.ofString "\"\"")).length ≤ 100) : FnD 126 4 [.int kind, .str name, .int bits, .int more] (.str (rp kind name bits more)) := by
  constructor
  intro w loose mean mg mb dp un gd cn cs a ccd cl outer A₀ base h₀ L m s G vs Q E B X T hk hd1 hu F htk hl dvs k
  apply daCons (vs := vs) dvs; intro v1 vs_1 d1 r
  apply daCons (vs := vs_1) r; intro v2 vs_2 d2 r
  apply daCons (vs := vs_2) r; intro v3 vs_3 d3 r
  apply daCons (vs := vs_3) r; intro v4 vs_4 d4 r
  apply daNil (vs := vs_4) r
  refine wpAny_call ?_
  refine enterC (K := hd.heap_39 w.params) (p := hd.view_39) B F X T rfl rfl hk (by rfl) (by rfl) (show dp < _ from Nat.lt_of_le_of_lt (Nat.le_add_right dp _) hd1) (BindsTo.of_eq rfl) (by rfl) (by decide) (fun L' h₁ tk cells hle F' N' CA B' X' T' => ?_) (by rfl) (by rfl) (by rfl)
  have en := FP.enter (lv := [(Str.ofString "kind", .int kind), (Str.ofString "name", .str name), (Str.ofString "bits", .int bits), (Str.ofString "more", .int more)]) (nms := []) (cv := []) F' hl (fun z d e => ?_) N' (fun x c hx => nomatch hx) (fun x c x' hx => nomatch hx) (fun x c d e => nomatch e)
  · refine Run.run (s₀ := s) ?_ h₁ tk G (Nat.lt_of_lt_of_le htk hle) en.1 en.2
    clear en CA F' N' d1 d2 d3 d4
    refine Run.asg (d := .str (rpCode kind more)) rfl ?vc ?k1
    case vc =>
      refine Ev.ite FP.frame (EvT.cmp FP.frame (by (repeat' first | exact Ev.cInt | exact Ev.cStr | exact Ev.cNone | exact Ev.cBool | exact Ev.loc (CP.at (by repeat (first | with_reducible exact List.mem_cons_self | with_reducible refine List.mem_cons_of_mem _ ?_))) | exact Ev.loc (FP.at (by repeat (first | with_reducible exact List.mem_cons_self | with_reducible refine List.mem_cons_of_mem _ ?_))) | refine Ev.list (by first | exact FP.frame | exact CP.frame FP.frame | exact CP.frame (CP.frame FP.frame)) ?_ | exact EvL.nil | refine EvL.cons (by first | exact FP.frame | exact CP.frame FP.frame | exact CP.frame (CP.frame FP.frame)) ?_ ?_)) Ev.cInt eq_iD) (fun c => ?_) (fun c => ?_)
      · rw [eq_of_beq c]
        exact Ev.item FP.frame (by (repeat' first | exact Ev.cInt | exact Ev.cStr | exact Ev.cNone | exact Ev.cBool | exact Ev.loc (CP.at (by repeat (first | with_reducible exact List.mem_cons_self | with_reducible refine List.mem_cons_of_mem _ ?_))) | exact Ev.loc (FP.at (by repeat (first | with_reducible exact List.mem_cons_self | with_reducible refine List.mem_cons_of_mem _ ?_))) | refine Ev.list (by first | exact FP.frame | exact CP.frame FP.frame | exact CP.frame (CP.frame FP.frame)) ?_ | exact EvL.nil | refine EvL.cons (by first | exact FP.frame | exact CP.frame FP.frame | exact CP.frame (CP.frame FP.frame)) ?_ ?_)) (Ev.bin FP.frame (by (repeat' first | exact Ev.cInt | exact Ev.cStr | exact Ev.cNone | exact Ev.cBool | exact Ev.loc (CP.at (by repeat (first | with_reducible exact List.mem_cons_self | with_reducible refine List.mem_cons_of_mem _ ?_))) | exact Ev.loc (FP.at (by repeat (first | with_reducible exact List.mem_cons_self | with_reducible refine List.mem_cons_of_mem _ ?_))) | refine Ev.list (by first | exact FP.frame | exact CP.frame FP.frame | exact CP.frame (CP.frame FP.frame)) ?_ | exact EvL.nil | refine EvL.cons (by first | exact FP.frame | exact CP.frame FP.frame | exact CP.frame (CP.frame FP.frame)) ?_ ?_)) Ev.cInt (mod_iD (by decide))) (Int.fmod_nonneg_of_pos more (by decide)) (Int.lt_trans (Int.fmod_lt_of_pos more (by decide)) (by decide)) (code_at more)
      · have : rpCode kind more = Str.ofString "257" := if_neg (by simpa using c)
        rw [this]
        exact Ev.cStr
    refine Run.asg (d := .str (rpHead kind more)) rfl ?vh ?k2
    case vh =>
      refine Ev.ite FP.frame (EvT.cmp FP.frame (by (repeat' first | exact Ev.cInt | exact Ev.cStr | exact Ev.cNone | exact Ev.cBool | exact Ev.loc (CP.at (by repeat (first | with_reducible exact List.mem_cons_self | with_reducible refine List.mem_cons_of_mem _ ?_))) | exact Ev.loc (FP.at (by repeat (first | with_reducible exact List.mem_cons_self | with_reducible refine List.mem_cons_of_mem _ ?_))) | refine Ev.list (by first | exact FP.frame | exact CP.frame FP.frame | exact CP.frame (CP.frame FP.frame)) ?_ | exact EvL.nil | refine EvL.cons (by first | exact FP.frame | exact CP.frame FP.frame | exact CP.frame (CP.frame FP.frame)) ?_ ?_)) Ev.cInt eq_iD) (fun c => ?_) (fun c => ?_)
      · rw [eq_of_beq c]
        exact Ev.item FP.frame (by (repeat' first | exact Ev.cInt | exact Ev.cStr | exact Ev.cNone | exact Ev.cBool | exact Ev.loc (CP.at (by repeat (first | with_reducible exact List.mem_cons_self | with_reducible refine List.mem_cons_of_mem _ ?_))) | exact Ev.loc (FP.at (by repeat (first | with_reducible exact List.mem_cons_self | with_reducible refine List.mem_cons_of_mem _ ?_))) | refine Ev.list (by first | exact FP.frame | exact CP.frame FP.frame | exact CP.frame (CP.frame FP.frame)) ?_ | exact EvL.nil | refine EvL.cons (by first | exact FP.frame | exact CP.frame FP.frame | exact CP.frame (CP.frame FP.frame)) ?_ ?_)) (Ev.bin FP.frame (by (repeat' first | exact Ev.cInt | exact Ev.cStr | exact Ev.cNone | exact Ev.cBool | exact Ev.loc (CP.at (by repeat (first | with_reducible exact List.mem_cons_self | with_reducible refine List.mem_cons_of_mem _ ?_))) | exact Ev.loc (FP.at (by repeat (first | with_reducible exact List.mem_cons_self | with_reducible refine List.mem_cons_of_mem _ ?_))) | refine Ev.list (by first | exact FP.frame | exact CP.frame FP.frame | exact CP.frame (CP.frame FP.frame)) ?_ | exact EvL.nil | refine EvL.cons (by first | exact FP.frame | exact CP.frame FP.frame | exact CP.frame (CP.frame FP.frame)) ?_ ?_)) Ev.cInt (mod_iD (by decide))) (Int.fmod_nonneg_of_pos more (by decide)) (Int.lt_trans (Int.fmod_lt_of_pos more (by decide)) (by decide)) (head_at more)
      · have : rpHead kind more = Str.ofString " \"" := if_neg (by simpa using c)
        rw [this]
        exact Ev.cStr
    refine Run.asg (d := .str (rpTail kind bits)) rfl ?vt ?k3
    case vt =>
      refine Ev.ite FP.frame (EvT.cmp FP.frame (by (repeat' first | exact Ev.cInt | exact Ev.cStr | exact Ev.cNone | exact Ev.cBool | exact Ev.loc (CP.at (by repeat (first | with_reducible exact List.mem_cons_self | with_reducible refine List.mem_cons_of_mem _ ?_))) | exact Ev.loc (FP.at (by repeat (first | with_reducible exact List.mem_cons_self | with_reducible refine List.mem_cons_of_mem _ ?_))) | refine Ev.list (by first | exact FP.frame | exact CP.frame FP.frame | exact CP.frame (CP.frame FP.frame)) ?_ | exact EvL.nil | refine EvL.cons (by first | exact FP.frame | exact CP.frame FP.frame | exact CP.frame (CP.frame FP.frame)) ?_ ?_)) Ev.cInt eq_iD) (fun c => ?_) (fun c => ?_)
      · have : rpTail kind bits = Str.ofString "" := if_pos (eq_of_beq c)
        rw [this]
        exact Ev.cStr
      · refine Ev.ite FP.frame (EvT.cmp FP.frame (by (repeat' first | exact Ev.cInt | exact Ev.cStr | exact Ev.cNone | exact Ev.cBool | exact Ev.loc (CP.at (by repeat (first | with_reducible exact List.mem_cons_self | with_reducible refine List.mem_cons_of_mem _ ?_))) | exact Ev.loc (FP.at (by repeat (first | with_reducible exact List.mem_cons_self | with_reducible refine List.mem_cons_of_mem _ ?_))) | refine Ev.list (by first | exact FP.frame | exact CP.frame FP.frame | exact CP.frame (CP.frame FP.frame)) ?_ | exact EvL.nil | refine EvL.cons (by first | exact FP.frame | exact CP.frame FP.frame | exact CP.frame (CP.frame FP.frame)) ?_ ?_)) Ev.cInt eq_iD) (fun c' => ?_) (fun c' => ?_)
        · have : rpTail kind bits = Str.ofString "\"" := (if_neg (by simpa using c)).trans (if_pos (eq_of_beq c'))
          rw [this]
          exact Ev.cStr
        · have : rpTail kind bits = Str.ofString "\" " ++ fm bits := (if_neg (by simpa using c)).trans (if_neg (by simpa using c'))
          rw [this]
          exact Ev.bin FP.frame Ev.cStr (Ev.call (dp := dp + 1) (un := un + 3) FP.frame B' X' T' (by rfl) (by omega) (by omega) (ffm bits) (EvL.cons FP.frame (by (repeat' first | exact Ev.cInt | exact Ev.cStr | exact Ev.cNone | exact Ev.cBool | exact Ev.loc (CP.at (by repeat (first | with_reducible exact List.mem_cons_self | with_reducible refine List.mem_cons_of_mem _ ?_))) | exact Ev.loc (FP.at (by repeat (first | with_reducible exact List.mem_cons_self | with_reducible refine List.mem_cons_of_mem _ ?_))) | refine Ev.list (by first | exact FP.frame | exact CP.frame FP.frame | exact CP.frame (CP.frame FP.frame)) ?_ | exact EvL.nil | refine EvL.cons (by first | exact FP.frame | exact CP.frame FP.frame | exact CP.frame (CP.frame FP.frame)) ?_ ?_)) EvL.nil)) (add_sD (by rw [fm_len, sizeLine_eq]; decide))
    have l1 := code_len kind more
    have l2 := head_len kind more
    have l3 : (rpTail kind bits).length ≤ 20 := by
      unfold rpTail
      split
      · decide
      · split
        · decide
        · rw [Str.length_append, fm_len]; decide
    refine Run.ret FP.frame (d := .str (rp kind name bits more)) ?_ ?_
    · refine Ev.bin FP.frame (Ev.bin FP.frame (Ev.bin FP.frame (by (repeat' first | exact Ev.cInt | exact Ev.cStr | exact Ev.cNone | exact Ev.cBool | exact Ev.loc (CP.at (by repeat (first | with_reducible exact List.mem_cons_self | with_reducible refine List.mem_cons_of_mem _ ?_))) | exact Ev.loc (FP.at (by repeat (first | with_reducible exact List.mem_cons_self | with_reducible refine List.mem_cons_of_mem _ ?_))) | refine Ev.list (by first | exact FP.frame | exact CP.frame FP.frame | exact CP.frame (CP.frame FP.frame)) ?_ | exact EvL.nil | refine EvL.cons (by first | exact FP.frame | exact CP.frame FP.frame | exact CP.frame (CP.frame FP.frame)) ?_ ?_)) (by (repeat' first | exact Ev.cInt | exact Ev.cStr | exact Ev.cNone | exact Ev.cBool | exact Ev.loc (CP.at (by repeat (first | with_reducible exact List.mem_cons_self | with_reducible refine List.mem_cons_of_mem _ ?_))) | exact Ev.loc (FP.at (by repeat (first | with_reducible exact List.mem_cons_self | with_reducible refine List.mem_cons_of_mem _ ?_))) | refine Ev.list (by first | exact FP.frame | exact CP.frame FP.frame | exact CP.frame (CP.frame FP.frame)) ?_ | exact EvL.nil | refine EvL.cons (by first | exact FP.frame | exact CP.frame FP.frame | exact CP.frame (CP.frame FP.frame)) ?_ ?_)) (add_sD ?_)) (Ev.replaceC (by (repeat' first | exact Ev.cInt | exact Ev.cStr | exact Ev.cNone | exact Ev.cBool | exact Ev.loc (CP.at (by repeat (first | with_reducible exact List.mem_cons_self | with_reducible refine List.mem_cons_of_mem _ ?_))) | exact Ev.loc (FP.at (by repeat (first | with_reducible exact List.mem_cons_self | with_reducible refine List.mem_cons_of_mem _ ?_))) | refine Ev.list (by first | exact FP.frame | exact CP.frame FP.frame | exact CP.frame (CP.frame FP.frame)) ?_ | exact EvL.nil | refine EvL.cons (by first | exact FP.frame | exact CP.frame FP.frame | exact CP.frame (CP.frame FP.frame)) ?_ ?_)) (by decide +kernel) (Nat.le_trans hname (by decide)) (by decide +kernel) rfl) (add_sD ?_)) (by (repeat' first | exact Ev.cInt | exact Ev.cStr | exact Ev.cNone | exact Ev.cBool | exact Ev.loc (CP.at (by repeat (first | with_reducible exact List.mem_cons_self | with_reducible refine List.mem_cons_of_mem _ ?_))) | exact Ev.loc (FP.at (by repeat (first | with_reducible exact List.mem_cons_self | with_reducible refine List.mem_cons_of_mem _ ?_))) | refine Ev.list (by first | exact FP.frame | exact CP.frame FP.frame | exact CP.frame (CP.frame FP.frame)) ?_ | exact EvL.nil | refine EvL.cons (by first | exact FP.frame | exact CP.frame FP.frame | exact CP.frame (CP.frame FP.frame)) ?_ ?_)) (add_sD ?_)
      all_goals (rw [sizeLine_eq]; (try simp only [Str.length_append]); omega)
    · intro v h tk' G' htk' hP hl' dv
      obtain ⟨m', F'', _⟩ := hP.loc
      exact k v h tk' G' F''.keep hP.sub hP.new hl' dv
  · simp only [List.mem_cons, List.not_mem_nil, or_false, Prod.mk.injEq] at e
    rcases e with ⟨q1, q2⟩ | ⟨q1, q2⟩ | ⟨q1, q2⟩ | ⟨q1, q2⟩ <;> subst q1 <;> subst q2
    · exact ⟨v1, rfl, d1⟩
    · exact ⟨v2, rfl, d2⟩
    · exact ⟨v3, rfl, d3⟩
    · exact ⟨v4, rfl, d4⟩
end Mine
end

section
theorem Mine.fresh_P6 : True := by
  w_top off
  k_with_none
  trivial
local macro_rules | `(tactic| walk_at "zz0") => `(tactic| fail "zz")
local macro_rules | `(tactic| walk_at "zz1") => `(tactic| fail "zz")
open PySem PySem.W PyProof.Rows
set_option Elab.async false
set_option maxRecDepth 100000
set_option maxHeartbeats 8000000
set_option pp.deepTerms.threshold 6
set_option pp.deepTerms false
set_option pp.proofs.threshold 2
namespace Mine
local macro_rules | `(tactic| walk_at "leaving ref") => `(tactic| (k_here; (refine' leave_raiseS ?k1 ?k0 ?k2 ?k3 ?_; (case k0 => assumption); (case k1 => assumption); (case k2 => assumption); (case k3 => k_asm); k_whole; intro h' t' R' _ U'; (try dsimp only at R' U' ⊢))))
/-- parse257: it tells, or it refuses by error_reply of the reply -/
theorem fparse (w : World) (loose : List Str) (mean : ExcName → Option Value) (mg mb : Str → Option Value)
   (dp un : Nat) (gd : Option (List Code)) (cn : Str) (cs : Scope) (a : Addr) (ccd : Value) (cl : List (Str × Addr)) (outer : List Env) (A₀ : Around) (base h₀ : Heap) (L : Addr) (m : Str → Option Value) (s : Shared) (x : Str) (tx : Tok) (hx : x.length ≤ 1000)
    (Q E : Value → Shared → Prop) (B : Below A₀ base outer h₀) (F : Fr h₀ L s.heap m) (X : (hd.heap_39 w.params).In h₀) (T : Top hd.view_39 loose mean mg mb h₀) (hk : cs.kind = .function)
    (hd1 : dp + 10 < recursionLimit)
    (hret : ∀ d t h' tk', Kp s.heap h' → Told257 x d → Q (.str d t) { s with heap := h', toks := tk' })
    (herr : ∀ e t' g' h' tk', (Txt.slice x none (some 3) != Str.ofString "257") = true → Kp s.heap g' → Fr h₀ L g' m → RaisedS base g' (envX cn cs L a ccd cl :: outer) e (Value.ref 37) t' [Value.str x tx] [] h' → g'.UpToSlots h' → E (.ref e) { s with heap := h', toks := tk' }) :
    wpAny (model PySem.Challenge.rw_om0036_01.row.prog w) (ktrTop dp un gd cn cs L a ccd cl outer) (call (.ref 46) [.str x tx]) Q E s := by
  revert X
  k_fill
  intro X
  refine wpAny_call ?_
  k_dflt (refine' code_defG ?k1 ?k2 ?k3 ?k4 ?k5 ?kA ?kF ?kK ?k6 ?k7 ?k8 ?k9 ?kB ?_ ?c2 ?c3 ?c4 ?c5; (case kA => exact rfl); (case kF => exact rfl); (case kK => assumption); (case k1 => k_asm); (case k2 => k_asm); (case k3 => k_asm); (case k4 => exact News.nil); (case k5 => k_asm); (case k6 => k_is); (case k7 => k_is); (case k8 => ktr_room); (case k9 => exact BindsTo.of_eq rfl); (case c5 => decide); (case kB => exact locs rfl); (case c2 => exact rfl); (case c3 => exact rfl); (case c4 => exact rfl); k_whole; intro g' L' h' FG' F' N' B' X' T' GS'; (try dsimp only); (try k_fold))
  k_with "exec While Compare cons nil" => k_while (fun script i d => 0 ≤ i ∧ (d.length : Int) ≤ i ∧ PI x i d) (fun script i d => x.length - i.toNat) "i" "dirname"
  k_with "state" => first | exact ⟨by decide, by decide, pi_start⟩ | exact ⟨by omega, by omega, pi_q (by assumption) (by assumption) (by assumption) (by assumption) (by assumption) (by assumption)⟩ | exact ⟨by omega, by omega, pi_c (by assumption) (by assumption) (by assumption) (by assumption)⟩
  k_steps
  · exact herr _ _ _ _ _ (by assumption) (gKp (by assumption)) (by assumption) (by assumption) (by assumption)
  · exact hret _ _ _ _ (.of (by assumption) (by assumption)) ⟨by assumption, .inl ⟨by assumption, rfl⟩⟩
  · exact hret _ _ _ _ (.of (by assumption) (by assumption)) ⟨by assumption, .inr ⟨by assumption, pi_b1 (by assumption) (by assumption) (by assumption) (by assumption) (by assumption)⟩⟩
  · exact hret _ _ _ _ (.of (by assumption) (by assumption)) ⟨by assumption, .inr ⟨by assumption, pi_b2 (by assumption) (by assumption) (by assumption) (by assumption) (by assumption) (by assumption)⟩⟩
  · exact hret _ _ _ _ (.of (by assumption) (by assumption)) ⟨by assumption, .inr ⟨by assumption, pi_done (by assumption) (by assumption)⟩⟩
end Mine
end

section
open PySem PySem.W PyProof.Rows
set_option Elab.async false
set_option maxRecDepth 100000
set_option linter.all false
namespace Mine
def sg0 (bits : Int) : Str := if bits.fdiv 4096 = 10 then Str.ofString "l" else if bits.fdiv 4096 = 12 then Str.ofString "s" else if bits.fdiv 4096 = 8 then Str.ofString "-" else if bits.fdiv 4096 = 6 then Str.ofString "b" else if bits.fdiv 4096 = 4 then Str.ofString "d" else if bits.fdiv 4096 = 2 then Str.ofString "c" else if bits.fdiv 4096 = 1 then Str.ofString "p" else Str.ofString "?"
def sgK : Nat → Int | 0 => 2 | 1 => 1 | _ => 0
def sgLo : Nat → Str | 0 => Str.ofString "s" | 1 => Str.ofString "s" | _ => Str.ofString "t"
def sgUp : Nat → Str | 0 => Str.ofString "S" | 1 => Str.ofString "S" | _ => Str.ofString "T"
def sg3 (bits : Int) (i : Nat) : Int := (bits.fdiv (8 ^ Int.toNat (sgK i))).fmod 8
def sgR (bits : Int) (i : Nat) : Str := if 3 < sg3 bits i then Str.ofString "r" else Str.ofString "-"
def sgW (bits : Int) (i : Nat) : Str := if ((sg3 bits i).fdiv 2).fmod 2 = 1 then Str.ofString "w" else Str.ofString "-"
def sgX (bits : Int) (i : Nat) : Str := if ((bits.fdiv 512).fdiv (2 ^ Int.toNat (sgK i))).fmod 2 = 1 then (if (sg3 bits i).fmod 2 = 1 then sgLo i else sgUp i) else if (sg3 bits i).fmod 2 = 1 then Str.ofString "x" else Str.ofString "-"
def sgText (bits : Int) : Nat → Str
  | 0 => sg0 bits
  | i + 1 => sgText bits i ++ sgR bits i ++ sgW bits i ++ sgX bits i
theorem sgText_s (b : Int) (i : Nat) : sgText b (i + 1) = sgText b i ++ sgR b i ++ sgW b i ++ sgX b i := rfl
theorem one_ite {p : Prop} [Decidable p] {a b : Str} (ha : a.length = 1) (hb : b.length = 1) : (if p then a else b).length = 1 := by split <;> assumption
theorem sg0_len (b : Int) : (sg0 b).length = 1 := by
  unfold sg0
  repeat (refine one_ite (by decide +kernel) ?_)
  decide +kernel
theorem sgLo_len : ∀ i, (sgLo i).length = 1
  | 0 | 1 => by decide +kernel
  | _ + 2 => show (Str.ofString "t").length = 1 by decide +kernel
theorem sgUp_len : ∀ i, (sgUp i).length = 1
  | 0 | 1 => by decide +kernel
  | _ + 2 => show (Str.ofString "T").length = 1 by decide +kernel
theorem up_lo : ∀ i, Txt.upper (sgLo i) = sgUp i
  | 0 | 1 => by decide +kernel
  | _ + 2 => show Txt.upper (Str.ofString "t") = Str.ofString "T" by decide +kernel
theorem sgR_len (b : Int) (i : Nat) : (sgR b i).length = 1 := one_ite (by decide +kernel) (by decide +kernel)
theorem sgW_len (b : Int) (i : Nat) : (sgW b i).length = 1 := one_ite (by decide +kernel) (by decide +kernel)
theorem sgX_len (b : Int) (i : Nat) : (sgX b i).length = 1 := one_ite (one_ite (sgLo_len i) (sgUp_len i)) (one_ite (by decide +kernel) (by decide +kernel))
theorem sgText_len (b : Int) : ∀ i, (sgText b i).length = 1 + 3 * i
  | 0 => sg0_len b
  | i + 1 => by
    rw [sgText, Str.length_append, Str.length_append, Str.length_append, sgR_len, sgW_len, sgX_len, sgText_len b i]; rfl
end Mine
end

section

end

section
open PySem PySem.W PyProof.Rows PySem.Calls
open PySem.Builtin PySem.Builtin.Str PySem.Builtin.BaseException PySem.Builtin.Exceptions
set_option Elab.async false
set_option maxRecDepth 100000
set_option linter.all false
set_option maxHeartbeats 1000000
namespace Mine
/-- an exception of the text's own class error_reply, made of one text -/
structure OwnExc (h : Heap) (e : Addr) (x : Str) (tx : Tok) : Prop where
  at' : ∃ oe ws t, h.get? e = some oe ∧ oe.cls = .ref 37 ∧ oe.data = .fields ws ∧ ws[0]? = some (.ref t) ∧ h.TupAt t [.str x tx]
section
variable {w : World} {prog : Program} {A : Around} {E : Value → Shared → Prop} {s : Shared} {e : Addr} {x : Str} {tx : Tok}
theorem own_bexcArgs {M : Model} {Q : Value × List Value → Shared → Prop} (X : OwnExc s.heap e x tx) (hq : ∀ t, Q (.ref t, [.str x tx]) s) : wpAny M A (bexcArgs (.ref e)) Q E s := by
  obtain ⟨o, vs, t, ho, _, hd, h0, ot, k, hto, _, htd⟩ := X.at'
  unfold bexcArgs
  refine wpAny_bind (wpAny_field ho hd h0 (wpAny_bind (wpAny_seqItems hto htd ?_)))
  exact wpAny_pure (hq t)
theorem own_bexcStr {Q : Fin → Shared → Prop} (X : OwnExc s.heap e x tx) (hq : Q (.done (.ret (.str x tx))) s) : wpAny (model prog w) A (Builtin.«BaseException.__str__» ⟨[.ref e], []⟩) Q E s := by
  unfold Builtin.«BaseException.__str__»
  repeat (first | (with_reducible refine own_bexcArgs X fun t => ?_) | wp_step)
  exact hq
theorem own_specialOf {M : Model} {Q : Option Value → Shared → Prop} (XK : (hd.heap_39 w.params).In s.heap) (X : OwnExc s.heap e x tx) (hq : Q (some (.builtin "BaseException.__str__")) s) : wpAny M A (specialOf (.ref e) "__str__") Q E s := by
  obtain ⟨o, vs, t, ho, hc, hd, h0, _⟩ := X.at'
  unfold specialOf
  simp only [typeOf]
  refine wpAny_bind (wpAny_bind (wpAny_load ho (wpAny_pure ?_)))
  rw [hc]
  exact (looks_findIn XK (t := .ref 37) (name := "__str__") (r := some (.builtin "BaseException.__str__")) (by rfl)) _ _ _ _ (fun _ _ e => e) hq
theorem bs_kind : builtinKind "BaseException.__str__" = some .slot := by decide +kernel
theorem bs_split : splitId "BaseException.__str__" = some ("BaseException", "__str__") := by decide +kernel
theorem bs_bind (self : Value) : bindSpecial (.builtin "BaseException.__str__") self = pure (.builtin "BaseException.__str__", [self]) := by
  have hop : withoutEnding? "BaseException.__str__" "#opaque" = none := by decide +kernel
  have hdat : withoutEnding? "BaseException.__str__" "#data" = none := by decide +kernel
  simp only [bindSpecial, typeOf, builtinType, hop, hdat, bs_kind]; rfl
theorem bs_plain : plainId "BaseException.__str__" = true := by decide +kernel
theorem own_isInst {M : Model} (XK : (hd.heap_39 w.params).In s.heap) (X : OwnExc s.heap e x tx) : Looks M s.heap (isInstance (.ref e) (.type "BaseException")) true := by
  obtain ⟨o, vs, t, ho, hc, hd, h0, _⟩ := X.at'
  intro A Q E s' k q
  unfold isInstance
  simp only [typeOf]
  refine wpAny_bind (wpAny_bind (wpAny_load (k _ _ ho) (wpAny_pure ?_)))
  rw [hc]
  exact (looks_subIn XK (t := .ref 37) (base := .type "BaseException") (r := true) (by rfl)) _ _ _ _ k q
theorem own_call {w₀ : World} {Q : Value → Shared → Prop} (XK : (hd.heap_39 w₀.params).In s.heap) (X : OwnExc s.heap e x tx) (hq : Q (.str x tx) s) : wpAny (model prog w) A (call (.builtin "BaseException.__str__") [.ref e]) Q E s := by
  refine wpAny_call (codeAny_call_builtin bs_plain F.entry_bexc_str ?_)
  have ha := F.args_bexc_str (.ref e)
  refine @check_slot (model prog w) _ _ s "BaseException.__str__" "BaseException" "__str__" (.ref e) [] [] _ bs_kind bs_split (own_isInst XK X) ha ?_
  refine wpAny_mono (own_bexcStr (Q := fun fin s' => ∃ v, fin = .done (.ret v) ∧ Q v s') X ⟨_, rfl, hq⟩) (fun fin s' h' => ?_) fun _ _ h' => h'
  obtain ⟨v, rfl, hv⟩ := h'
  exact hv
theorem own_callStr {w₀ : World} {Q : Option Value → Shared → Prop} (XK : (hd.heap_39 w₀.params).In s.heap) (X : OwnExc s.heap e x tx) (hq : Q (some (.str x tx)) s) : wpAny (model prog w) A (callSpecial? (.ref e) "__str__") Q E s := by
  simp only [callSpecial?]
  refine wpAny_bind (own_specialOf XK X ?_)
  simp only [bs_bind]
  refine wpAny_holding (wpAny_bind (wpAny_pure (wpAny_bind ?_)))
  exact own_call XK X (wpAny_pure hq)
theorem own_strOf {w₀ : World} {Q : Value → Shared → Prop} (hu : A.units < cLine) (XK : (hd.heap_39 w₀.params).In s.heap) (X : OwnExc s.heap e x tx) (hq : Q (.str x tx) s) : wpAny (model prog w) A (PySem.Builtin.Str.strOf (.ref e)) Q E s := by
  unfold PySem.Builtin.Str.strOf
  repeat (first | with_reducible refine wpAny_cRoomFor hu ?_ | with_reducible refine own_callStr XK X ?_ | wp_step)
  exact hq
theorem own_str {w₀ : World} {Q : Value → Shared → Prop} (hu : A.units + 2 < cLine) (XK : (hd.heap_39 w₀.params).In s.heap) (X : OwnExc s.heap e x tx) (hq : Q (.str x tx) s) : wpAny (model prog w) A (call (.type "str") [.ref e]) Q E s :=
  callType_new F.called_str (by decide) (F.typeCall_str_1 _) (F.newCall_str_1 _) (fun obj => F.args_object_init_2 obj _) F.entry_str_new
    (meets_str_new (S := fun A' R s' => A'.units + 1 < cLine ∧ (_root_.Mine.hd.heap_39 w₀.params).In s'.heap ∧ OwnExc s'.heap e x tx ∧ R (.ok (.ret (.str x tx))) s')
      fun _ _ A' _ _ hq => own_strOf (A := A'.in1) hq.1 hq.2.1 hq.2.2.1 hq.2.2.2)
    ⟨(show A.units + 1 + 1 < cLine from hu), XK, X, typeIs_str _ _ _, hq⟩
end
end Mine
end

section
open PySem PySem.W PyProof.Rows PySem.Calls PySem.SeqAt
set_option Elab.async false
set_option maxRecDepth 100000
set_option linter.all false
set_option maxHeartbeats 1000000
set_option pp.deepTerms.threshold 8
set_option pp.deepTerms false
set_option pp.proofs.threshold 2
namespace Mine
/-- what is said of the frozen objects -/
structure MonP where
  f : Ldg → Prop
  mono : ∀ G G', (∀ p ∈ G, p ∈ G') → f G → f G'
/-- a frame F above the law's frame L -/
structure XC where
  h₀ : Heap
  F : Addr
  L : Addr
  G₀ : Ldg
  mL : Str → Option Value
inductive XNm (c : XC) (nm : List (Str × Value)) (h : Heap) : Prop
  | mk (m : Str → Option Value) (n : h.Ns c.F m) (b : ∀ p ∈ nm, m p.1 = some p.2) : XNm c nm h
/-- a frame with objects ex of its own -/
structure XP (c : XC) (nm : List (Str × Value)) (ex : Ldg) (Y : MonP) (lv : List (Str × Dat)) (G : Ldg) (h : Heap) : Prop where
  fp : FP c.h₀ c.F c.G₀ [] lv [] G h
  nm : XNm c nm h
  ex : ∀ p ∈ ex, h.get? p.1 = some p.2 ∧ p.1 ≠ c.F ∧ p.1 ≠ c.L ∧ c.h₀.get? p.1 = none ∧ ∀ q ∈ G, q.1 ≠ p.1
  off : ∀ q ∈ G, q.1 ≠ c.L
  law : h.Ns c.L c.mL
  ne : c.L ≠ c.F
  no : c.h₀.get? c.L = none
  y : Y.f G
section
variable {c : XC} {nm nm' : List (Str × Value)} {ex ex' : Ldg} {Y Y' : MonP} {lv lv' : List (Str × Dat)} {G G' : Ldg} {h h' : Heap}
theorem XP.frame : FrameOk c.h₀ c.F (XP c nm ex Y lv) where
  stab := fun G h G' h' y x => by
    obtain ⟨m, n1, n2⟩ := y.nm
    refine ⟨FP.frame.stab _ _ _ _ y.fp x, ⟨m, x.ns m n1, n2⟩, fun p hp => ?_, fun q hq => ?_, y.law.at' fun o e => x.kp _ _ y.ne e, y.ne, y.no, Y.mono _ _ x.sub y.y⟩
    · obtain ⟨a1, a2, a3, a4, a5⟩ := y.ex p hp
      refine ⟨x.kp _ _ a2 a1, a2, a3, a4, fun q hq => ?_⟩
      rcases x.fresh q hq with r | ⟨r, _⟩
      · exact a5 q r
      · intro e; (first | exact noAt e r a1 | exact noIs e r a1 | exact (noAt e r a1).elim | exact (noIs e r a1).elim | (rw [e, a1] at r; cases r))
    · rcases x.fresh q hq with r | ⟨r, _⟩
      · exact y.off q r
      · intro e
        obtain ⟨o, _, _, ho, _⟩ := y.law
        (first | exact noAt e r ho | exact noIs e r ho | exact (noAt e r ho).elim | exact (noIs e r ho).elim | (rw [e, ho] at r; cases r))
  fr := fun G h y => FP.frame.fr _ _ y.fp
  off := fun G h y => y.fp.off
theorem XP.at {x : Str} {d : Dat} (e : (x, d) ∈ lv) : ∀ G h, XP c nm ex Y lv G h → ∃ m v, h.Ns c.F m ∧ m x = some v ∧ DatIn G v d := fun G h y => FP.at e G h y.fp
/-- objects X beside the frame change -/
theorem XP.move {X : List Addr} (y : XP c nm ex Y lv G h) (l : Led G h) (k : KX X h h') (nF : ∀ m, h.Ns c.F m → h'.Ns c.F m) (nL : ∀ m, h.Ns c.L m → h'.Ns c.L m) (hG : ∀ p ∈ G, p.1 ∉ X) (h0 : ∀ b o, c.h₀.get? b = some o → b ∉ X)
    (hex : ∀ p ∈ ex', (p ∈ ex ∧ p.1 ∉ X) ∨ (h'.get? p.1 = some p.2 ∧ p.1 ≠ c.F ∧ p.1 ≠ c.L ∧ c.h₀.get? p.1 = none ∧ ∀ q ∈ G, q.1 ≠ p.1)) (hY : Y'.f G) : XP c nm ex' Y' lv G h' ∧ Led G h' := by
  obtain ⟨m, F, b⟩ := y.fp.loc
  obtain ⟨m', n1, n2⟩ := y.nm
  refine ⟨⟨⟨⟨m, ⟨nF m F.ns, fun b o e => k b o (h0 b o e) (F.keep b o e), F.above⟩, b⟩, (fun x c hc => by cases hc), (fun x c x' hc => by cases hc), (fun x c d hc => by cases hc), y.fp.off, y.fp.new, y.fp.sub⟩, ⟨m', nF m' n1, n2⟩, fun p hp => ?_, y.off, nL _ y.law, y.ne, y.no, hY⟩, fun p hp => k _ _ (hG p hp) (l p hp)⟩
  rcases hex p hp with ⟨q, r⟩ | q
  · obtain ⟨a1, a2, a3, a4, a5⟩ := y.ex p q
    exact ⟨k _ _ r a1, a2, a3, a4, a5⟩
  · exact q
/-- the frame's names change -/
theorem XP.chg {m m' : Str → Option Value} (y : XP c nm ex Y lv G h) (hl : Led G h) (n : h.Ns c.F m) (n' : h'.Ns c.F m') (kp : ∀ b o, b ≠ c.F → h.get? b = some o → h'.get? b = some o) (b' : Binds G m' lv') (hnm : ∀ p ∈ nm', m' p.1 = some p.2) : XP c nm' ex Y lv' G h' ∧ Led G h' := by
  obtain ⟨f, l⟩ := y.fp.chg hl n' kp b'
  exact ⟨⟨f, ⟨m', n', hnm⟩, fun p hp => by
    obtain ⟨a1, a2, a3, a4, a5⟩ := y.ex p hp
    exact ⟨kp _ _ a2 a1, a2, a3, a4, a5⟩, y.off, y.law.at' fun o e => kp _ _ y.ne e, y.ne, y.no, y.y⟩, l⟩
theorem XP.less (y : XP c nm ex Y lv G h) (hs : ∀ p ∈ lv', p ∈ lv) (hn : ∀ p ∈ nm', p ∈ nm) (he : ∀ p ∈ ex', p ∈ ex) (hY : Y'.f G) : XP c nm' ex' Y' lv' G h :=
  ⟨y.fp.less hs fun _ q => q, by obtain ⟨m, a, b⟩ := y.nm; exact ⟨m, a, fun p hp => b p (hn p hp)⟩, fun p hp => y.ex p (he p hp), y.off, y.law, y.ne, y.no, hY⟩
/-- new objects that become the frame's own -/
theorem XP.own {p : Addr × Obj} (y : XP c nm ex Y lv G h) (l : Led G h) (k : Kp h h') (e : h'.get? p.1 = some p.2) (n : h.get? p.1 = none) : XP c nm (p :: ex) Y lv G h' ∧ Led G h' := by
  have gone : ∀ b o, h.get? b = some o → b ≠ p.1 := fun b o q r => by (first | exact noAt r q n | exact noIs r q n | exact (noAt r q n).elim | exact (noIs r q n).elim | (rw [r, n] at q; cases q))
  obtain ⟨mF, nF, _⟩ := y.nm
  refine y.move (X := []) l (fun b o _ q => k b o q) (fun m q => q.at' fun o r => k _ _ r) (fun m q => q.at' fun o r => k _ _ r) (fun _ _ q => nomatch q) (fun _ _ _ q => nomatch q) (fun q hq => ?_) y.y
  rcases List.mem_cons.mp hq with rfl | hq
  · refine .inr ⟨e, fun r => ?_, fun r => ?_, ?_, fun q hq => gone _ _ (l q hq)⟩
    · obtain ⟨o, _, _, ho, _⟩ := nF
      exact gone _ _ ho r.symm
    · obtain ⟨o, _, _, ho, _⟩ := y.law
      exact gone _ _ ho r.symm
    · cases r : c.h₀.get? q.1 with
      | none => rfl
      | some o =>
        obtain ⟨_, F, _⟩ := y.fp.loc
        rw [F.keep _ _ r] at n; cases n
  · exact .inl ⟨hq, fun r => nomatch r⟩
/-- an own object changes -/
theorem XP.upd {a : Addr} {o o' : Obj} (y : XP c nm ((a, o) :: ex) Y lv G h) (l : Led G h) (k : Heap.SameBut a h h') (e : h'.get? a = some o') (na : ∀ p ∈ ex, p.1 ≠ a) (hY : Y'.f G) : XP c nm ((a, o') :: ex) Y' lv G h' ∧ Led G h' := by
  obtain ⟨a1, a2, a3, a4, a5⟩ := y.ex _ (.head _)
  refine y.move (X := [a]) l (fun b o hb q => k.extBut b o (by simpa using hb) q) (fun m q => q.sameBut k (Ne.symm a2)) (fun m q => q.sameBut k (Ne.symm a3)) (fun p hp => by simpa using a5 p hp) (fun b o q => ?_) (fun q hq => ?_) hY
  · simp only [List.mem_singleton]
    intro r
    dsimp only at a4
    (first | exact noAt r q a4 | exact noIs r q a4 | exact (noAt r q a4).elim | exact (noIs r q a4).elim | (rw [r, a4] at q; cases q))
  · rcases List.mem_cons.mp hq with rfl | hq
    · exact .inr ⟨e, a2, a3, a4, a5⟩
    · exact .inl ⟨.tail _ hq, by simpa using na q hq⟩
end
section
variable {prog : Program} {w : World} {A : Around} {env : Env} {c : XC} {nm : List (Str × Value)} {ex : Ldg} {Y : MonP} {lv lv' : List (Str × Dat)} {s₀ : Shared} {Q : Flow → Shared → Prop} {E : Value → Shared → Prop}
/-- x = e, with the rest told by hand -/
theorem xp_asg {x : Str} {p1 pos : Pos} {value : PySem.Expr} {G : Ldg} {h : Heap} {tk : Nat} {lvr : List (Str × Dat)} (hloc : env.locals = c.F) (htk : 0 < tk) (y : XP c nm ex Y lv G h) (l : Led G h)
    (hx : env.kindOf x = some .local) (hsub : ∀ p ∈ lvr, p ∈ lv) (hnw : (lvr.all fun p => p.1 != x) = true) (hnm : (nm.all fun p => p.1 != x) = true)
    (hp : (env.scope.kind == .class || (env.scope.kind == .module && env.locals != env.globals)) = false)
    (hv : wpAny (model prog w) A (eval value env) (fun v s' => ∃ h' tk' G' d, s' = { s₀ with heap := h', toks := tk' } ∧ 0 < tk' ∧ XP c nm ex Y lv G' h' ∧ Led G' h' ∧ DatIn G' v d ∧
      ∀ h'' tk'', 0 < tk'' → XP c nm ex Y ((x, d) :: lvr) G' h'' → Led G' h'' → Q .next { s₀ with heap := h'', toks := tk'' }) E { s₀ with heap := h, toks := tk })
    (hs : swapsWith value (some (.Name x p1)) pos.line env = pure false := by rfl) :
    wpAny (model prog w) A (exec (.Assign [.Name x p1] value pos) env) Q E { s₀ with heap := h, toks := tk } := by
  refine wpAny_Assign_Name (wpAny_mono hv (fun v s' q => ?_) fun _ _ e => e) hs
  obtain ⟨h', tk', G', d, rfl, htk', y', l', dv, k⟩ := q
  obtain ⟨m, n1, n2⟩ := y'.nm
  obtain ⟨m0, F0, b0⟩ := y'.fp.loc
  have e0 := ns_uniq F0.ns n1
  subst e0
  refine wpToks (s := { s₀ with heap := h', toks := tk' }) htk' (wpAny_storeName_local hx (m := m0) (by rw [hloc]; exact n1) (fun h₃ hn hs₃ htk₃ => ?_) hp)
  rw [hloc] at hn hs₃
  obtain ⟨y₃, l₃⟩ := y'.chg (nm' := nm) (lv' := (x, d) :: lvr) l' n1 hn (fun b o hb e => hs₃.extBut b o hb e) (binds_cons (fun z d e => b0 z d (hsub _ e)) dv hnw) (fun p hp => by
    have : p.1 ≠ x := by simpa using List.all_eq_true.mp hnm _ hp
    simp [this, n2 p hp])
  exact k h₃ _ htk₃ y₃ l₃
/-- names = (e, f) -/
theorem xp_swap {elts es : List PySem.Expr} {kk k2 : Nat} {tp p2 pos : Pos} {names : List Str} {ds : List Dat} {lvr : List (Str × Dat)} {G : Ldg} {h : Heap} {tk : Nat} (hh : A.handled = none) (hloc : env.locals = c.F) (htk : 0 < tk) (y : XP c nm ex Y lv G h) (l : Led G h)
    (hv : EvL prog w A c.F env (XP c nm ex Y lv) es ds)
    (k : ∀ h' tk' G', 0 < tk' → XP c nm ex Y (names.zip ds ++ lvr) G' h' → Led G' h' → Q .next { s₀ with heap := h', toks := tk' })
    (hlen : names.length = ds.length) (hsz : ds.length ≤ 10) (hsub : ∀ p ∈ lvr, p ∈ lv) (hxk : ∀ x ∈ names, env.kindOf x = some .local) (nd : names.Nodup) (hnw : ∀ p ∈ lvr, p.1 ∉ names) (hnm : ∀ p ∈ nm, p.1 ∉ names)
    (hp : (env.scope.kind == .class || (env.scope.kind == .module && env.locals != env.globals)) = false)
    (hs : swapsWithSole [.Tuple elts kk tp] (.Tuple es k2 p2) pos.line env = pure false := by rfl) (hw : swappedStores [.Tuple elts kk tp] (.Tuple es k2 p2) env = pure (some names) := by rfl) :
    wpAny (model prog w) A (exec (.Assign [.Tuple elts kk tp] (.Tuple es k2 p2) pos) env) Q E { s₀ with heap := h, toks := tk } := by
  refine wpToks (s := { s₀ with heap := h, toks := tk }) htk (asg_swap hh hp hxk nd (hv.run p2 _ G _ _ htk y l fun vs h₂ tk₂ G₂ htk₂ z dvs => ?_) hs hw)
  have hP₂ := XP.frame.stab _ _ _ _ y z
  obtain ⟨m, n1, n2⟩ := hP₂.nm
  obtain ⟨m0, F0, b⟩ := hP₂.fp.loc
  have e0 := ns_uniq F0.ns n1
  subst e0
  have hvl : vs.length = names.length := by rw [dvs.length, hlen]
  refine ⟨hvl, by rw [dvs.length, sizeLine_eq]; omega, m0, by rw [hloc]; exact n1, fun h₃ tk₃ m₃ kp₃ n₃ b₃ r₃ htk₃ => ?_⟩
  rw [hloc] at kp₃ n₃
  have zz : ∀ (ns : List Str) (us : List Value) (cs : List Dat), ns.length = cs.length → DatAll G₂ us cs → ∀ x d, (x, d) ∈ ns.zip cs → ∃ v, (x, v) ∈ ns.zip us ∧ DatIn G₂ v d := by
    intro ns
    induction ns with
    | nil => intro us cs _ _ x d e; simp at e
    | cons n ns ih =>
      intro us cs hl1 da x d e
      cases da with
      | nil => simp at e
      | @cons u us c cs du da =>
        rcases List.mem_cons.mp e with q | q
        · cases q
          exact ⟨u, .head _, du⟩
        · obtain ⟨v, e1, e2⟩ := ih us cs (by simpa using hl1) da x d q
          exact ⟨v, .tail _ e1, e2⟩
  have bb : Binds G₂ m₃ (names.zip ds ++ lvr) := fun x d e => by
    rcases List.mem_append.mp e with q | q
    · obtain ⟨v, e1, e2⟩ := zz names vs ds hlen dvs x d q
      exact ⟨v, b₃ x v e1, e2⟩
    · obtain ⟨v', e1, e2⟩ := b x d (hsub _ q)
      exact ⟨v', (r₃ x (hnw _ q)).trans e1, e2⟩
  obtain ⟨y', l₃⟩ := hP₂.chg (nm' := nm) z.led n1 n₃ kp₃ bb (fun p hp => (r₃ _ (hnm p hp)).trans (n2 p hp))
  exact k h₃ tk₃ G₂ htk₃ y' l₃
/-- a list's item laid on: heard.append(e) -/
theorem xp_append {lst : Str} {a : Addr} {vs : List Value} {n : Nat} {p1 ap pos pos' : Pos} {arg : PySem.Expr} {d : Dat} {G : Ldg} {h : Heap} {tk : Nat} (hloc : env.locals = c.F) (hkd : env.scope.kind = .function) (htk : 0 < tk) (ye : XP c nm ((a, W.listOf (List.toArray vs) n) :: ex) Y lv G h) (l : Led G h)
    (hn : (lst, Value.ref a) ∈ nm) (hna : ∀ p ∈ ex, p.1 ≠ a) (hv : Ev prog w A c.F env (XP c nm ((a, W.listOf (List.toArray vs) n) :: ex) Y lv) arg d) (hsz : vs.length ≤ 1000)
    (k : ∀ h' tk' G' v n', 0 < tk' → DatIn G' v d → XP c nm ((a, W.listOf (List.toArray (vs ++ [v])) n') :: ex) Y lv G' h' → Led G' h' → (∀ p ∈ G, p ∈ G') → Q .next { s₀ with heap := h', toks := tk' })
    (hnm : env.kindOf lst = some .local) (hdn : (lst == ("__debug__" : Str)) = false) (hint : interactive env = false) (hpos : (ap.endLine == pos.line) = true)
    (hsw : swapsWith (.Call (.Attribute (.Name lst p1) (Str.ofString "append") ap) [arg] [] pos) none pos'.line env = pure false := by rfl)
    (hes : starEach [arg] env = (false, eval arg env) :: starEach [] env := by rfl) :
    wpAny (model prog w) A (exec (.Expr (.Call (.Attribute (.Name lst p1) (Str.ofString "append") ap) [arg] [] pos) pos') env) Q E { s₀ with heap := h, toks := tk } := by
  obtain ⟨m, n1, n2⟩ := ye.nm
  have eD := (ye.ex _ (.head _)).1
  refine wpAny_Expr (wpAny_mono (Q := fun r s' => r = Value.none ∧ Q .next s') (MethodCall_ (wpAny_Name (wpAny_loadName_local hkd hnm (by rw [hloc]; exact n1) (n2 _ hn) ?_) hdn) (meth_eq hpos hes)) (fun r s' q => by obtain ⟨rfl, q⟩ := q; exact q) fun _ _ e => e) hint hsw
  refine getMethod_list_of PySem.F.slot_list_append PySem.F.type_list_append (s := { s₀ with heap := h, toks := tk }) ⟨_, eD, rfl, _, rfl⟩ ⟨_, eD, rfl⟩ ?_
  refine callWith_method1 (wpAny_items_cons (hv.run _ G _ _ htk ye l fun v h₂ tk₂ G₂ htk₂ x dv => wpAny_items_nil ?_) hes) hes (by rfl)
  have hP₂ := XP.frame.stab _ _ _ _ ye x
  have eD₂ := (hP₂.ex _ (.head _)).1
  refine append_at (s := { s₀ with heap := h₂, toks := tk₂ }) eD₂ (fun h₃ hs hD => ?_) (by rw [List.size_toArray, sizeLine_eq]; omega)
  rw [List.push_toArray] at hD
  obtain ⟨y₃, l₃⟩ := hP₂.upd x.led hs hD hna hP₂.y
  exact ⟨rfl, k h₃ tk₂ G₂ v _ htk₂ dv y₃ l₃ x.sub⟩
end
end Mine
end

section
open PySem PySem.W PyProof.Rows PySem.Calls PySem.SeqAt
set_option Elab.async false
set_option maxRecDepth 100000
set_option linter.all false
set_option maxHeartbeats 1000000
set_option pp.deepTerms.threshold 8
set_option pp.deepTerms false
set_option pp.proofs.threshold 2
namespace Mine
section
variable {c : XC} {nm nm' : List (Str × Value)} {ex ex' : Ldg} {Y Y' : MonP} {lv lv' : List (Str × Dat)} {G G' : Ldg} {h h' : Heap}
/-- the ground below a call -/
theorem xp_ground {g₀ : Heap} {A₁ : Around} {envL : Env} (hc : c.h₀ = hideAll g₀ [c.L]) (hL0 : ∃ o, g₀.get? c.L = some o) (hA : A₁.frames = some [envL]) (hfl : envL.frame = some c.L) (hk : envL.scope.kind = .function) (y : XP c nm ex Y lv G h) :
    ∃ g m, (∀ b o, c.h₀.get? b = some o → g.get? b = some o) ∧ Fr g c.F h m ∧ Below A₁ c.h₀ [envL] g := by
  obtain ⟨o₀, e₀⟩ := hL0
  obtain ⟨oL, es, ep, eL, dL, rL⟩ := y.law
  obtain ⟨m, F, b⟩ := y.fp.loc
  have hfr : oL.isFreed = false := (Heap.get?_some_iff.mp eL).2
  have eS : (g₀.update c.L (fun _ => oL)).get? c.L = some oL := Heap.get?_update_self _ e₀ hfr
  have eO : ∀ b, b ≠ c.L → (g₀.update c.L (fun _ => oL)).get? b = g₀.get? b := fun b hb => Heap.get?_update_other _ _ (Ne.symm hb)
  have up : ∀ b o, c.h₀.get? b = some o → (g₀.update c.L (fun _ => oL)).get? b = some o := fun b o e => by
    have hb : b ≠ c.L := fun q => by (first | exact noAt q e y.no | exact noIs q e y.no | exact (noAt q e y.no).elim | exact (noIs q e y.no).elim | (rw [q, y.no] at e; cases e))
    rw [eO b hb]
    rw [hc] at e
    exact of_hideAll _ e
  refine ⟨g₀.update c.L (fun _ => oL), m, up, ⟨F.ns, fun b o e => ?_, ?_⟩, ⟨hA, fun b o e => up b o e, ?_⟩⟩
  · by_cases hb : b = c.L
    · rw [hb, eS] at e
      cases e
      rw [hb]; exact eL
    · rw [eO b hb] at e
      exact F.keep b o (by rw [hc]; exact hideAll_get _ e (by simpa using hb))
  · rw [Heap.size_after_update]
    have := F.above
    rw [hc, hideAll_size] at this
    exact this
  · exact ⟨by rw [hk]; decide, ⟨c.L, oL, hfl, y.no, eS, fun vs q => by (first | exact noBoth dL q | exact noBoth q dL | exact (noBoth dL q).elim | exact (noBoth q dL).elim | (rw [dL] at q; cases q))⟩, trivial⟩
end
section
variable {w : World} {A : Around} {c : XC} {nm : List (Str × Value)} {ex : Ldg} {Y : MonP} {lv : List (Str × Dat)} {s₀ : Shared} {E : Value → Shared → Prop} {loose : List Str} {mean : ExcName → Option Value} {mg mb : Str → Option Value}
/-- what a refusal leaves -/
structure XRef (c : XC) (nm : List (Str × Value)) (ex : Ldg) (Y : MonP) (lv : List (Str × Dat)) (l : List Env) (e t : Addr) (x : Str) (tx : Tok) (G : Ldg) (h' : Heap) : Prop where
  at' : ∃ g₁, XP c nm ex Y lv G g₁ ∧ Led G g₁ ∧ RaisedS c.h₀ g₁ l e (.ref 37) t [.str x tx] [] h' ∧ g₁.UpToSlots h'
/-- parse257(reply) -/
theorem xp_parse {g₀ : Heap} {envL env : Env} {dp un : Nat} {gd : Option (List Code)} {cn : Str} {cs : Scope} {a : Addr} {ccd : Value} {cl : List (Str × Addr)} {arg fn : Str} {npos apos pos : Pos} {x : Str} {G : Ldg} {h : Heap} {tk : Nat} {Q : Value → Shared → Prop}
    (hc : c.h₀ = hideAll g₀ [c.L]) (hL0 : ∃ o, g₀.get? c.L = some o) (hfl : envL.frame = some c.L) (hkl : envL.scope.kind = .function) (X : (hd.heap_39 w.params).In c.h₀) (T : Top hd.view_39 loose mean mg mb c.h₀)
    (hk : cs.kind = .function) (hd1 : dp + 10 < recursionLimit) (htk : 0 < tk) (y : XP c nm ex Y lv G h) (l : Led G h) (hx : x.length ≤ 1000) (ha : (arg, Dat.str x) ∈ lv)
    (hret : ∀ d t h' tk', 0 < tk' → Told257 x d → XP c nm ex Y lv G h' → Led G h' → Q (.str d t) { s₀ with heap := h', toks := tk' })
    (herr : ∀ e t tx h' tk', 0 < tk' → (Txt.slice x none (some 3) != Str.ofString "257") = true → XRef c nm ex Y lv [envX cn cs c.F a ccd cl, envL] e t x tx G h' → E (.ref e) { s₀ with heap := h', toks := tk' })
    (hloc : env.locals = c.F) (hg : nsIn (hd.heap_39 w.params) mainGlobals fn = some (some (.ref 46))) (hke : env.scope.kind = .function) (hfn : env.kindOf fn = some .globalImplicit) (hgl : env.globals = mainGlobals) (hdb : (fn == ("__debug__" : Str)) = false)
    (hak : env.kindOf arg = some .local) (had : (arg == ("__debug__" : Str)) = false)
    (he : starEach [.Name arg apos] env = (false, eval (.Name arg apos) env) :: starEach [] env := by rfl)
    (hcall : eval (.Call (.Name fn npos) [.Name arg apos] [] pos) env = (do callWith pos (← eval (.Name fn npos) env) [] (backTo pos (starEach [.Name arg apos] env)) (backToKw pos (keywordEach [] env))) := by rfl) :
    wpAny (model PySem.Challenge.rw_om0036_01.row.prog w) (ktrTop dp un gd cn cs c.F a ccd cl [envL]) (eval (.Call (.Name fn npos) [.Name arg apos] [] pos) env) Q E { s₀ with heap := h, toks := tk } := by
  obtain ⟨m, F⟩ := XP.frame.fr _ _ y
  obtain ⟨ma, va, na, ea, da⟩ := XP.at ha G h y
  obtain ⟨tx, rfl⟩ := iStr da
  obtain ⟨fo, hfo⟩ : ∃ fo, (hd.heap_39 w.params).lookup 46 = some fo := ⟨_, by rfl⟩
  obtain ⟨fd, hfd⟩ : ∃ fd, fo.data = .func fd := by
    have : (hd.heap_39 w.params).lookup 46 = some fo := hfo
    cases this
    exact ⟨_, rfl⟩
  refine wpAny_toks (Call_ (Name_function_global hke hfn (loadGlobal_global (by rw [hgl]; exact T.g.keeps F.keep) (mg_of X T.g hg) ?_) hdb) hcall)
  refine callWith_def hfd (wpAny_items_cons (wpAny_Name (wpAny_loadName_local hke hak (by rw [hloc]; exact na) ea (wpAny_items_nil ?_)) had) he) he
  refine ⟨F.keep _ _ (X _ _ hfo), ?_⟩
  obtain ⟨g, mg', up, FG, BG⟩ := xp_ground (A₁ := { callerA with frames := some [envL] }) hc hL0 rfl hfl hkl y
  refine fparse w loose mean mg mb dp un gd cn cs a ccd cl [envL] { callerA with frames := some [envL] } c.h₀ g c.F mg' { s₀ with heap := h, toks := tk } x tx hx _ _ BG FG (X.keeps up) (T.keeps up) hk hd1 (fun d t h' tk' kp told hle => ?_) (fun e t' g' h' tk' hne kp F' R U hle => ?_)
  · dsimp only at kp hle
    have z := Ext.of_kp (L := c.F) l kp
    exact hret d t h' tk' (Nat.lt_of_lt_of_le htk hle) told (XP.frame.stab _ _ _ _ y z) z.led
  · dsimp only at kp hle
    have z := Ext.of_kp (L := c.F) l kp
    exact herr e t' tx h' tk' (Nat.lt_of_lt_of_le htk hle) hne ⟨g', XP.frame.stab _ _ _ _ y z, z.led, R, U⟩
end
end Mine
end

section
open PySem PySem.W PyProof.Rows PySem.Calls PySem.SeqAt
set_option Elab.async false
set_option maxRecDepth 100000
set_option linter.all false
set_option maxHeartbeats 1000000
set_option pp.deepTerms.threshold 8
set_option pp.deepTerms false
set_option pp.proofs.threshold 2
namespace Mine
section
variable {prog : Program} {w : World} {A : Around} {env envL : Env} {c : XC} {nm : List (Str × Value)} {ex : Ldg} {Y : MonP} {lv : List (Str × Dat)} {s₀ : Shared} {E : Value → Shared → Prop} {loose : List Str} {mean : ExcName → Option Value} {mg mb : Str → Option Value}
/-- what is known of the exception's object and of its arguments -/
structure OwnObjs (oe ot : Obj) (t : Addr) (x : Str) (tx : Tok) : Prop where
  cls : oe.cls = .ref 37
  data : ∃ ws, oe.data = .fields ws ∧ ws[0]? = some (.ref t)
  tcls : ot.cls = .type "tuple"
  tdata : ∃ n, ot.data = .seq (List.toArray [.str x tx]) n
theorem OwnObjs.at' {oe ot : Obj} {e t : Addr} {x : Str} {tx : Tok} {G : Ldg} {h : Heap} (o : OwnObjs oe ot t x tx) (y : XP c nm ex Y lv G h) (he : (e, oe) ∈ ex) (ht : (t, ot) ∈ ex) : OwnExc h e x tx := by
  obtain ⟨ws, d, w0⟩ := o.data
  obtain ⟨n, td⟩ := o.tdata
  exact ⟨oe, ws, t, (y.ex _ he).1, o.cls, d, w0, ot, n, (y.ex _ ht).1, o.tcls, td⟩
theorem up_ns {h h' : Heap} {a : Addr} (x : h.UpToSlots h') : ∀ m, h.Ns a m → h'.Ns a m := fun m n => x.ns n
/-- except error_reply as n: the refusal is caught -/
theorem xp_catch {e t : Addr} {x : Str} {tx : Tok} {G : Ldg} {h : Heap} {tk : Nat} {en n : Str} {np pos : Pos} {b₀ : Stmt} {suite : List Stmt} {Q : Flow → Shared → Prop}
    (hfr : A.frames = some [env, envL]) (hf : env.frame = some c.F) (hfl : envL.frame = some c.L) (hloc : env.locals = c.F) (hke : env.scope.kind = .function)
    (X : (hd.heap_39 w.params).In c.h₀) (T : Top hd.view_39 loose mean mg mb c.h₀) (R : XRef c nm ex Y lv [env, envL] e t x tx G h) (htk : 0 < tk)
    (hg : nsIn (hd.heap_39 w.params) mainGlobals en = some (some (.ref 37))) (hen : env.kindOf en = some .globalImplicit) (hgl : env.globals = mainGlobals) (hdb : (en == ("__debug__" : Str)) = false)
    (hn : env.kindOf n = some .local) (hnl : (lv.all fun p => p.1 != n) = true) (hnn : (nm.all fun p => p.1 != n) = true)
    (hp : (env.scope.kind == .class || (env.scope.kind == .module && env.locals != env.globals)) = false)
    (k : ∀ (E' : Value → Shared → Prop) h' tk' oe ot, 0 < tk' → XP c ((n, .ref e) :: nm) ((e, oe) :: (t, ot) :: ex) Y lv G h' → Led G h' → OwnObjs oe ot t x tx → (∀ p ∈ ex, p.1 ≠ e ∧ p.1 ≠ t) →
      wpAny (model prog w) (A.mark (some (.ref e))) (execs (b₀ :: suite) env) (fun f s₄ => wpAny (model prog w) A (do bindName env n .none; unbindBehindTheSuite env n pos) (fun _ s₅ => Q f s₅) E s₄) E' { s₀ with heap := h', toks := tk' }) :
    wpAny (model prog w) A (noteFrame (.ref e) env)
      (fun _ s₂ => wpAny (model prog w) A (setFlight (.ref e) none) (fun _ s₃ =>
        wpAny (model prog w) A (handleBy (.ref e) env [.ExceptHandler (some (.Name en np)) (some n) (b₀ :: suite) pos]) Q E s₃) E s₂) E { s₀ with heap := h, toks := tk } := by
  refine hide fun P back => ?_
  obtain ⟨g₁, y, l, ⟨⟨B, hB, hBG, hl, hfl', hnew⟩, htup⟩, U⟩ := R.at'
  have hfs : [env, envL].filterMap (·.frame) = [c.F, c.L] := by
    rw [List.filterMap_cons, hf, List.filterMap_cons, hfl]; rfl
  rw [hfs] at hBG
  obtain ⟨nm', q', N, bs, bm, hdct, sn, sub, ab, col, dd, k0, k1, k2, k3, k5, newId, hC, hbase, hbT⟩ := kts_cls (C := 37) (T := "BaseException") X (by rfl)
  refine back ?_
  clear back P
  refine wpAny_looks_onW (s := { s₀ with heap := h, toks := tk }) hfr hf hfl' fun h₄ hheld₄ hsm₄ => ?_
  refine wpAny_landsW (s := { s₀ with heap := h₄, toks := tk }) hheld₄ fun h₅ hheld hsm₅' => ?_
  have hsm₅ := hsm₄.trans hsm₅'
  have keep₅ : ∀ b o, c.h₀.get? b = some o → h₅.get? b = some o := fun b o q => hheld.1 b o (hB b o q)
  obtain ⟨ob, hob, hobc⟩ := hheld.there
  have hC₅ := keep₅ _ _ hC
  refine wpAny_handleBy_cons (codeAny_handlers_test (Name_function_global hke hen (loadGlobal_global (by rw [hgl]; exact T.g.keeps keep₅) (mg_of X T.g hg) ?_) hdb)) (by intro q; cases q)
  refine wpAny_excMatches_sub_self hC₅ hob hobc hbase (codeAny_handlers_suite_as ?_)
  refine lands_againW (s := { s₀ with heap := h₅, toks := tk }) hheld fun h₆ hfl₆ hsm₆ => ?_
  dsimp only at hfl₆ hsm₆ ⊢
  refine hide fun P back => ?_
  have hsm := (U.trans hsm₅).trans hsm₆
  obtain ⟨oe, ws, hoe, hoec, hoed, hoe0⟩ := hfl₆.first
  obtain ⟨ot, nt, hot, hotc, hotd⟩ := (htup.of_slots hsm₅).of_slots hsm₆
  have kx : KX [c.F, c.L] g₁ h₆ := fun b o hb q => hfl₆.1 b o (hBG b o q hb)
  obtain ⟨mF, nF, _⟩ := y.nm
  have dictAt : ∀ f, f ∈ [c.F, c.L] → ∃ o es n, g₁.get? f = some o ∧ o.data = .dict es n := fun f hm => by
    simp only [List.mem_cons, List.not_mem_nil, or_false] at hm
    rcases hm with rfl | rfl
    · obtain ⟨o, es, ep, ho, hd, _⟩ := nF; exact ⟨o, es, ep, ho, hd⟩
    · obtain ⟨o, es, ep, ho, hd, _⟩ := y.law; exact ⟨o, es, ep, ho, hd⟩
  have fresh : ∀ a, B.get? a = none → (∀ o es n, h₆.get? a = some o → o.data ≠ .dict es n) → g₁.get? a = none := fun a ha hnd => by
    cases q : g₁.get? a with
    | none => rfl
    | some o =>
      by_cases hm : a ∈ [c.F, c.L]
      · obtain ⟨o', es, n', ho', hd'⟩ := dictAt a hm
        obtain ⟨sl, hs⟩ := hsm a o' ho' (fun vs q => by (first | exact noBoth hd' q | exact noBoth q hd' | exact (noBoth hd' q).elim | exact (noBoth q hd').elim | (rw [hd'] at q; cases q)))
        exact absurd hd' (hnd { o' with slots := sl } es n' hs)
      · have := hBG a o q hm
        (first | exact noBoth ha this | exact noBoth this ha | exact (noBoth ha this).elim | exact (noBoth this ha).elim | (rw [ha] at this; cases this))
  have ne : g₁.get? e = none := fresh e hfl₆.2.1 fun o es n q => by rw [hoe] at q; cases q; rw [hoed]; intro z; cases z
  have nt' : g₁.get? t = none := fresh t hnew fun o es n q => by rw [hot] at q; cases q; rw [hotd]; intro z; cases z
  have gone : ∀ a, g₁.get? a = none → a ≠ c.F ∧ a ≠ c.L ∧ c.h₀.get? a = none ∧ ∀ q ∈ G, q.1 ≠ a := fun a ha => by
    refine ⟨fun q => ?_, fun q => ?_, ?_, fun p hp q => ?_⟩
    · obtain ⟨o, es, n, ho, _⟩ := dictAt c.F (.head _); (first | exact noAt q ha ho | exact noIs q ha ho | exact (noAt q ha ho).elim | exact (noIs q ha ho).elim | (rw [q, ho] at ha; cases ha))
    · obtain ⟨o, es, n, ho, _⟩ := dictAt c.L (.tail _ (.head _)); (first | exact noAt q ha ho | exact noIs q ha ho | exact (noAt q ha ho).elim | exact (noIs q ha ho).elim | (rw [q, ho] at ha; cases ha))
    · cases q : c.h₀.get? a with
      | none => rfl
      | some o =>
        obtain ⟨_, F, _⟩ := y.fp.loc
        rw [F.keep _ _ q] at ha; cases ha
    · have := l p hp; (first | exact noAt q this ha | exact noIs q this ha | exact (noAt q this ha).elim | exact (noIs q this ha).elim | (rw [q, ha] at this; cases this))
  have h0F : c.h₀.get? c.F = none := by
    obtain ⟨_, F, _⟩ := y.fp.loc
    exact Heap.get?_none_of_le F.above
  obtain ⟨y₆, l₆⟩ := y.move (ex' := (e, oe) :: (t, ot) :: ex) (Y' := Y) l kx (up_ns hsm) (up_ns hsm) (fun p hp q => by
      simp only [List.mem_cons, List.not_mem_nil, or_false] at q
      rcases q with q | q
      · exact y.fp.off p hp q
      · exact y.off p hp q) (fun b o hb q => by
      simp only [List.mem_cons, List.not_mem_nil, or_false] at q
      rcases q with q | q
      · (first | exact noAt q hb h0F | exact noIs q hb h0F | exact (noAt q hb h0F).elim | exact (noIs q hb h0F).elim | (rw [q, h0F] at hb; cases hb))
      · (first | exact noAt q hb y.no | exact noIs q hb y.no | exact (noAt q hb y.no).elim | exact (noIs q hb y.no).elim | (rw [q, y.no] at hb; cases hb))) (fun p hp => by
      rcases List.mem_cons.mp hp with rfl | hp
      · exact .inr ⟨hoe, gone e ne⟩
      · rcases List.mem_cons.mp hp with rfl | hp
        · exact .inr ⟨hot, gone t nt'⟩
        · refine .inl ⟨hp, fun q => ?_⟩
          obtain ⟨_, a2, a3, _, _⟩ := y.ex p hp
          simp only [List.mem_cons, List.not_mem_nil, or_false] at q
          rcases q with q | q
          · exact a2 q
          · exact a3 q) y.y
  obtain ⟨m₆, n₆, b₆⟩ := y₆.nm
  obtain ⟨m0, F0, b0⟩ := y₆.fp.loc
  have e0 := ns_uniq F0.ns n₆
  subst e0
  refine back ?_
  clear back P
  refine wpToks (s := { s₀ with heap := h₆, toks := tk }) htk (wpAny_storeName_local hn (m := m0) (by rw [hloc]; exact n₆) (fun h₇ hn₇ hs₇ htk₇ => ?_) hp)
  rw [hloc] at hn₇ hs₇
  dsimp only at hn₇ hs₇ htk₇
  obtain ⟨y₇, l₇⟩ := y₆.chg (nm' := (n, .ref e) :: nm) (lv' := lv) l₆ n₆ hn₇ (fun b o hb q => hs₇.extBut b o hb q) (fun z d q => by
      obtain ⟨v, e1, e2⟩ := b0 z d q
      have hz : z ≠ n := by simpa using List.all_eq_true.mp hnl _ q
      exact ⟨v, by simp [hz, e1], e2⟩) (fun p hp => by
      rcases List.mem_cons.mp hp with rfl | hp
      · simp
      · have hz : p.1 ≠ n := by simpa using List.all_eq_true.mp hnn _ hp
        simp [hz, b₆ p hp])
  refine wpAny_mono (k _ h₇ (tk + 1) oe ot htk₇ y₇ l₇ ⟨hoec, ⟨ws, hoed, hoe0⟩, hotc, ⟨nt, hotd⟩⟩ (fun p hp => ⟨fun q => (by have := (y.ex p hp).1; (first | exact noAt q this ne | exact noIs q this ne | exact (noAt q this ne).elim | exact (noIs q this ne).elim | (rw [q, ne] at this; cases this))), fun q => (by have := (y.ex p hp).1; (first | exact noAt q this nt' | exact noIs q this nt' | exact (noAt q this nt').elim | exact (noIs q this nt').elim | (rw [q, nt'] at this; cases this)))⟩)) (fun f s₄ q => ?_) (fun _ _ q => q)
  exact q
/-- the name of the handler goes -/
theorem xp_goes {n : Str} {v : Value} {pos : Pos} {G : Ldg} {h : Heap} {tk : Nat} {Q : Unit → Shared → Prop} (hloc : env.locals = c.F) (y : XP c ((n, v) :: nm) ex Y lv G h) (l : Led G h) (hn : env.kindOf n = some .local)
    (hnl : (lv.all fun p => p.1 != n) = true) (hnn : (nm.all fun p => p.1 != n) = true) (hp : (env.scope.kind == .class || (env.scope.kind == .module && env.locals != env.globals)) = false)
    (k : ∀ h' tk', 0 < tk' → XP c nm ex Y lv G h' → Led G h' → Q () { s₀ with heap := h', toks := tk' }) :
    wpAny (model prog w) A (do bindName env n .none; unbindBehindTheSuite env n pos) Q E { s₀ with heap := h, toks := tk } := by
  obtain ⟨m, n1, b1⟩ := y.nm
  obtain ⟨m0, F0, b0⟩ := y.fp.loc
  have e0 := ns_uniq F0.ns n1
  subst e0
  refine wpAny_nameGoes_keeps (s := { s₀ with heap := h, toks := tk }) (m := m0) hn (by rw [hloc]; exact n1) hp fun h₇ u hn₇ hs₇ => ?_
  rw [hloc] at hn₇ hs₇
  obtain ⟨y₇, l₇⟩ := y.chg (nm' := nm) (lv' := lv) l n1 hn₇ (fun b o hb q => hs₇.extBut b o hb q) (fun z d q => by
      obtain ⟨v, e1, e2⟩ := b0 z d q
      have hz : z ≠ n := by simpa using List.all_eq_true.mp hnl _ q
      exact ⟨v, by simp [hz, e1], e2⟩) (fun p hp => by
      have hz : p.1 ≠ n := by simpa using List.all_eq_true.mp hnn _ hp
      simp [hz, b1 p (.tail _ hp)])
  exact k h₇ _ (Nat.succ_pos _) y₇ l₇
end
end Mine
end

section
open PySem PySem.W PyProof.Rows PySem.Calls PySem.SeqAt
set_option Elab.async false
set_option maxRecDepth 100000
set_option linter.all false
set_option maxHeartbeats 1000000
set_option pp.deepTerms.threshold 8
set_option pp.deepTerms false
set_option pp.proofs.threshold 2
namespace Mine
section
variable {prog : Program} {w : World} {A : Around} {h₀ : Heap} {L : Addr} {env : Env} {P : Ldg → Heap → Prop} {K : Frag} {p : Program} {loose : List Str} {mean : ExcName → Option Value} {mg mb : Str → Option Value}
/-- len(text) -/
theorem Ev.lenStr (st : FrameOk h₀ L P) {e : PySem.Expr} {np cp : Pos} {x : Str} (XK : K.In h₀) (TT : Top p loose mean mg mb h₀) (h : Ev prog w A L env P e (.str x)) (hx : x.length ≤ 100000)
    (hns : nsIn K mainGlobals (Str.ofString "len") = some none) (hkd : env.scope.kind = .function) (hr : env.kindOf (Str.ofString "len") = some .globalImplicit) (hg : env.globals = mainGlobals) (hb : env.builtins = builtinsNs)
    (hcall : eval (.Call (.Name (Str.ofString "len") np) [e] [] cp) env = (do callWith cp (← eval (.Name (Str.ofString "len") np) env) [] (backTo cp (starEach [e] env)) (backToKw cp (keywordEach [] env))) := by rfl)
    (hes : starEach [e] env = (false, eval e env) :: starEach [] env := by rfl) : Ev prog w A L env P (.Call (.Name (Str.ofString "len") np) [e] [] cp) (.int (x.length : Nat)) := Ev.of fun s G Q E hp hP hl k => by
  obtain ⟨mL, F⟩ := st.fr _ _ hP
  refine Call_ (builtin_name F.keep XK TT hns (v := .builtin "len") (by decide +kernel) (by decide +kernel) ?_ hkd hr hg hb (by decide +kernel)) hcall
  refine PyProof.Rows.callWith_builtin1 ((EvL.cons st h EvL.nil hes).run cp s G _ _ hp hP hl fun vs h' tk G' hp' y dvs => ?_) hes (by rfl)
  apply daCons (vs := vs) dvs; intro v vs_1 dv r
  apply daNil (vs := vs_1) r
  apply dStr (v := v) dv; intro t
  exact SBL.len (by omega) (k _ h' _ G' y (.int _ _))
/-- text.count(text) -/
theorem Ev.countStr (st : FrameOk h₀ L P) {e : PySem.Expr} {nm : Str} {np ap cp : Pos} {x z : Str} (h0 : Ev prog w A L env P (.Name nm np) (.str x)) (h : Ev prog w A L env P e (.str z))
    (hpos : (ap.endLine == cp.line) = true) (hes : starEach [e] env = (false, eval e env) :: starEach [] env := by rfl) : Ev prog w A L env P (.Call (.Attribute (.Name nm np) (Str.ofString "count") ap) [e] [] cp) (.int (Txt.count x z)) := Ev.of fun s G Q E hp hP hl k => by
  refine MethodCall_ (h0.run _ G _ _ hp hP hl fun v h' tk G' hp' y dv => ?_) (meth_eq hpos hes)
  apply dStr (v := v) dv; intro t
  refine GM.count ?_
  have hP' := st.stab _ _ _ _ hP y
  refine callWith_method1 ((EvL.cons st h EvL.nil hes).run cp _ G' _ _ hp' hP' y.led fun vs h'' tk' G'' hp'' y' dvs => ?_) hes (by rfl)
  apply daCons (vs := vs) dvs; intro v vs_2 dv r
  apply daNil (vs := vs_2) r
  apply dStr (v := v) dv; intro u
  exact SC.count (k _ h'' _ G'' (y.trans y') (.int _ _))
/-- text[i:] -/
theorem Ev.sliceStr (st : FrameOk h₀ L P) {e lo : PySem.Expr} {p1 pos : Pos} {x : Str} {i : Int} (h₁ : Ev prog w A L env P e (.str x)) (h₂ : Ev prog w A L env P lo (.int i)) (hsz : x.length ≤ sizeLine)
    (hs : ∀ t b, subscripted (.Slice (some lo) none none p1) false (.str x t) (.ref b) = operate [.ref b, .str x t] (getItem (.str x t) (.ref b)) := by intro _ _; with_unfolding_all rfl)
    (ht : ∀ t r, letTemporaryGo e (.str x t) r = pure () := by intro _ _; with_unfolding_all rfl) :
    Ev prog w A L env P (.Subscript e (.Slice (some lo) none none p1) pos) (.str (Txt.slice x (some i) none)) := Ev.of fun s G Q E hp hP hl k => Subscript_ (h₁.run s G _ _ hp hP hl fun v h' tk G' hp' z dv => by
  apply dStr (v := v) dv; intro t
  have hP' := st.stab _ _ _ _ hP z
  refine wpAny_Slice ?_
  refine h₂.run _ G' _ _ hp' hP' z.led fun vl h2 tk2 G2 hp2 z2 pl => ?_
  cases pl with
  | int _ u =>
  have hP2 := st.stab _ _ _ _ hP' z2
  refine wpAny_pure (wpAny_pure ?_)
  obtain ⟨m, n⟩ := st.ns _ _ hP2
  refine slice_strN_sn (s := { s with heap := h2, toks := tk2 }) (useF n) (useN (L := L)) (fun h3 t' k' F3 N3 => ?_) (hs _ _) (ht _) hsz
  have x3 := backFN (tl := []) z2.led n (st.off _ _ hP2) F3 N3 (fun q hq => nomatch hq)
  exact k _ h3 _ G2 ((z.trans z2).trans x3) (.str _ _))
/-- str(error) -/
theorem Ev.strExc {c : XC} {nm : List (Str × Value)} {ex : Ldg} {Y : MonP} {lv : List (Str × Dat)} {n : Str} {np ap cp : Pos} {e t : Addr} {oe ot : Obj} {x : Str} {tx : Tok} (XK : (hd.heap_39 w.params).In c.h₀) (TT : Top p loose mean mg mb c.h₀) (o : OwnObjs oe ot t x tx) (he : (e, oe) ∈ ex) (ht : (t, ot) ∈ ex) (hn : (n, Value.ref e) ∈ nm) (hu : A.units + 2 < cLine)
    (hloc : env.locals = c.F) (hns : nsIn (hd.heap_39 w.params) mainGlobals (Str.ofString "str") = some none) (hkd : env.scope.kind = .function) (hr : env.kindOf (Str.ofString "str") = some .globalImplicit) (hg : env.globals = mainGlobals) (hb : env.builtins = builtinsNs) (hnk : env.kindOf n = some .local) (hnd : (n == ("__debug__" : Str)) = false)
    (hcall : eval (.Call (.Name (Str.ofString "str") np) [.Name n ap] [] cp) env = (do callWith cp (← eval (.Name (Str.ofString "str") np) env) [] (backTo cp (starEach [.Name n ap] env)) (backToKw cp (keywordEach [] env))) := by rfl)
    (hes : starEach [.Name n ap] env = (false, eval (.Name n ap) env) :: starEach [] env := by rfl) : Ev prog w A c.F env (XP c nm ex Y lv) (.Call (.Name (Str.ofString "str") np) [.Name n ap] [] cp) (.str x) := Ev.of fun s G Q E hp hP hl k => by
  obtain ⟨mL, F⟩ := XP.frame.fr _ _ hP
  refine Call_ (builtin_name F.keep XK TT hns (v := .type "str") (by decide +kernel) (by decide +kernel) ?_ hkd hr hg hb (by decide +kernel)) hcall
  obtain ⟨m, n1, n2⟩ := hP.nm
  refine PyProof.Rows.callWith_type1 (wpAny_items_cons (wpAny_Name (wpAny_loadName_local hkd hnk (by rw [hloc]; exact n1) (n2 _ hn) (wpAny_items_nil ?_)) hnd) hes) hes (by rfl)
  exact own_str hu (XK.keeps F.keep) (o.at' hP he ht) (k _ s.heap s.toks G (.rfl' hl) (.str _ _))
end
end Mine
end

section
open PySem PySem.W PyProof.Rows PySem.Calls PySem.SeqAt
set_option Elab.async false
set_option maxRecDepth 100000
set_option linter.all false
set_option maxHeartbeats 1000000
set_option pp.deepTerms.threshold 8
set_option pp.deepTerms false
set_option pp.proofs.threshold 2
namespace Mine
section
variable {prog : Program} {w : World} {A : Around} {h₀ : Heap} {L : Addr} {env : Env} {P : Ldg → Heap → Prop} {s₀ : Shared} {Q : Flow → Shared → Prop} {E : Value → Shared → Prop}
/-- what a for over a list of data wants: Z between the turns, the iterator's object told apart -/
structure ForZ (prog : Program) (w : World) (A : Around) (env : Env) (s₀ : Shared) (target : PySem.Expr) (body : List Stmt) (Q : Flow → Shared → Prop) (ds : List Dat) (I : Addr) (G₁ : Ldg) (Z : Nat → Obj → Ldg → Heap → Prop) : Prop where
  at' : ∀ i o G h, Z i o G h → h.get? I = some o ∧ Led G h ∧ ∀ p ∈ G₁, p ∈ G
  next : ∀ i o G h h' o', Z i o G h → (∀ b ob, b ≠ I → h.get? b = some ob → h'.get? b = some ob) → h'.get? I = some o' → (∀ xs n, o'.data ≠ .seq xs n) → Z i o' G h'
  turn : ∀ i o G h tk v d (Q' : Flow → Shared → Prop) (E' : Value → Shared → Prop), ds[i]? = some d → Z i o G h → 0 < tk → DatIn G v d → (∀ h' tk' G', 0 < tk' → Z (i + 1) o G' h' → Q' .next { s₀ with heap := h', toks := tk' }) →
    wpAny (model prog w) A (assign target env v) (fun _ s₂ => wpAny (model prog w) A (execs body env) Q' E' s₂) E' { s₀ with heap := h, toks := tk }
  done : ∀ o G h h' tk, 0 < tk → Z ds.length o G h → (∀ b ob, b ≠ I → h.get? b = some ob → h'.get? b = some ob) → Q .next { s₀ with heap := h', toks := tk }
inductive DFI (s₀ : Shared) (ds : List Dat) (I ax : Addr) (Z : Nat → Obj → Ldg → Heap → Prop) : Nat → Shared → Prop
  | mk {h₂ : Heap} {tk₂ i : Nat} {o : Obj} {G₂ : Ldg} (htk : 0 < tk₂) (hi : i ≤ ds.length) (z : Z i o G₂ h₂) (hit : h₂.IsListIter I ax i) : DFI s₀ ds I ax Z (ds.length + 1 - i) { s₀ with heap := h₂, toks := tk₂ }
theorem data_for {target iter : PySem.Expr} {body : List Stmt} {pos : Pos} {ds : List Dat} {h : Heap} {tk : Nat} {G : Ldg} (hh : A.handled = none) (htk : 0 < tk) (st : FrameOk h₀ L P) (hP : P G h) (hl : Led G h) (hiter : Ev prog w A L env P iter (.list ds))
    (k : ∀ g h₁ G₁ I oI, P G₁ g → P G₁ h₁ → Led G₁ g → Kp g h₁ → h₁.get? I = some oI → (∀ xs n, oI.data ≠ .seq xs n) → g.get? I = none → ∃ Z, Z 0 oI G₁ h₁ ∧ ForZ prog w A env s₀ target body Q ds I G₁ Z)
    (hs : ∀ x, foldedSetIterable iter env x = pure x := by intro _; rfl) :
    wpAny (model prog w) A (exec (.For target iter body [] pos) env) Q E { s₀ with heap := h, toks := tk } := by
  refine wpAny_For (hiter.run _ G _ _ htk hP hl fun v h' tk' G' htk' x dv => ?_) hs
  obtain ⟨ax, vs, na, rfl, hm, hg, hax, dvs⟩ := isList_of x.led dv
  have hP' := st.stab _ _ _ _ hP x
  refine wpAny_pyIter_list (s := { s₀ with heap := h', toks := tk' }) hax ?_
  have hkp : Kp h' (h'.push { cls := .type "list_iterator", data := .fields #[.ref ax, .int 0 0] }) := fun b o e => Heap.get?_push_of_some _ e
  have hP₁ := st.stab _ _ _ _ hP' (Ext.of_kp x.led hkp)
  have hI0 : h'.get? h'.objs.size = none := Heap.get?_none_of_le (Nat.le_refl _)
  have haxI : ax ≠ h'.objs.size := Nat.ne_of_lt (Heap.lt_size hg)
  obtain ⟨Z, z0, F⟩ := k h' _ G' h'.objs.size _ hP' hP₁ x.led hkp (Heap.get?_push_size _ rfl) (fun xs n q => by cases q) hI0
  generalize hIe : h'.objs.size = I at *
  have Wk := Walks.list (prog := prog) (w := w) (A := A) hh I ax haxI (List.toArray vs)
  have hlen : vs.length = ds.length := dvs.length
  refine codeAny_forLoop_any (DFI s₀ ds I ax Z) ?_ (ds.length + 1) (.mk (i := 0) htk' (Nat.zero_le _) z0 ⟨_, (F.at' _ _ _ _ z0).1, rfl, rfl⟩)
  rintro _ _ ⟨htk₂, hi, z, hit⟩
  rename_i h₂ tk₂ i o G₂
  obtain ⟨eI, l₂, sub₂⟩ := F.at' _ _ _ _ z
  have hax₂ : h₂.IsList ax (List.toArray vs) := ⟨_, l₂ _ (sub₂ _ hm), rfl, _, rfl⟩
  by_cases hlt : i < ds.length
  · have hdi : ds[i]? = some ds[i] := List.getElem?_eq_getElem hlt
    refine wpToks (s := { s₀ with heap := h₂, toks := tk₂ }) htk₂ (Wk.item i _ _ _ (by rw [List.size_toArray, hlen]; exact hlt) ⟨hit, hax₂⟩ fun v h₃ tk₃ hv hst₃ hk₃ htk₃ => ?_)
    obtain ⟨v', hv', dv'⟩ := DatAll.get' (dvs.mono sub₂) hdi
    have : v' = v := by
      have h1 : vs[i]? = some v := by simpa using hv
      rw [hv'] at h1; exact Option.some.inj h1
    subst this
    refine letGo_listiter hst₃.1 ?_
    obtain ⟨⟨o₃, e₃, r₃⟩, _⟩ := hst₃
    have z₃ := F.next _ _ _ _ _ _ z (fun b ob hb e => hk₃ b ob (by simpa using hb) e) e₃ (fun xs n q => by (first | exact noBoth r₃.2 q | exact noBoth q r₃.2 | exact (noBoth r₃.2 q).elim | exact (noBoth q r₃.2).elim | (rw [r₃.2] at q; cases q)))
    refine F.turn i o₃ G₂ h₃ tk₃ v' ds[i] _ _ hdi z₃ htk₃ dv' fun h₅ tk₅ G₅ htk₅ z₅ => ?_
    exact ⟨ds.length + 1 - (i + 1), tl_less hlt, .mk (i := i + 1) htk₅ hlt z₅ ⟨o₃, (F.at' _ _ _ _ z₅).1, r₃⟩⟩
  · obtain rfl : i = ds.length := Nat.le_antisymm hi (Nat.le_of_not_lt hlt)
    refine wpToks (s := { s₀ with heap := h₂, toks := tk₂ }) htk₂ (Wk.done _ _ _ (by rw [List.size_toArray, hlen]; exact ⟨hit, hax₂⟩) fun h₃ tk₃ hk₃ htk₃ => wpAny_execs_nil ?_)
    exact F.done o G₂ h₂ h₃ tk₃ htk₃ z fun b ob hb e => hk₃ b ob (by simpa using hb) e
end
end Mine
end

section
open PySem PySem.W PyProof.Rows
set_option Elab.async false
set_option maxRecDepth 100000
namespace Mine
/-- a file as _law_files tells it -/
structure FRow where
  kind : Int
  name : Str
  bits : Int
  more : Int
def RowAt (h : Heap) (v : Value) (r : FRow) : Prop := ∃ a n t1 t2 t3 t4, v = .ref a ∧ h.get? a = some (W.listOf #[.int r.kind t1, .str r.name t2, .int r.bits t3, .int r.more t4] n)
inductive RowsAt (h : Heap) : List Value → List FRow → Prop
  | nil : RowsAt h [] []
  | cons {v r vs rs} : RowAt h v r → RowsAt h vs rs → RowsAt h (v :: vs) (r :: rs)
theorem RowsAt.length {h vs rs} (x : RowsAt h vs rs) : vs.length = rs.length := by induction x <;> simp_all
theorem RowsAt.get {h vs rs} (x : RowsAt h vs rs) : ∀ {i : Nat} {v : Value}, vs[i]? = some v → ∃ r, rs[i]? = some r ∧ RowAt h v r := by
  induction x with
  | nil => intro i v h; simp at h
  | cons a b ih =>
    intro i v h
    cases i with
    | zero => simp at h; subst h; exact ⟨_, rfl, a⟩
    | succ i => simpa using ih (by simpa using h)
theorem RowAt.keeps {h h' : Heap} {v r} (k : Kp h h') (x : RowAt h v r) : RowAt h' v r := by
  obtain ⟨a, n, t1, t2, t3, t4, e, g⟩ := x
  exact ⟨a, n, t1, t2, t3, t4, e, k _ _ g⟩
theorem RowsAt.keeps {h h' : Heap} {vs rs} (k : Kp h h') (x : RowsAt h vs rs) : RowsAt h' vs rs := by
  induction x with
  | nil => exact .nil
  | cons a _ ih => exact .cons (a.keeps k) ih
end Mine
end

section
open PySem PySem.W PyProof.Rows PySem.Calls PySem.SeqAt
set_option Elab.async false
set_option maxRecDepth 100000
set_option linter.all false
set_option maxHeartbeats 1000000
set_option pp.deepTerms.threshold 8
set_option pp.deepTerms false
set_option pp.proofs.threshold 2
namespace Mine
/-- what parse257 tells of a reply; nothing where it refuses -/
def tellX (x : Str) : Option Str := if (Txt.slice x none (some 3) != Str.ofString "257") = true then none else if (Txt.slice x (some 3) (some 5) != Str.ofString " \"") = true then some (Str.ofString "") else some ⟨(scan (x.cps.toList.drop 5)).toArray⟩
theorem tell_of {x d : Str} (h : Told257 x d) : tellX x = some d := by
  obtain ⟨h1, h2⟩ := h
  unfold tellX
  rw [if_neg (by rw [h1]; simp)]
  rcases h2 with ⟨h3, rfl⟩ | ⟨h3, h4⟩
  · rw [if_pos h3]
  · rw [if_neg (by rw [h3]; simp), ← h4]
theorem tell_none {x : Str} (h : (Txt.slice x none (some 3) != Str.ofString "257") = true) : tellX x = none := if_pos h
def replyOf (r : FRow) : Str := rp r.kind r.name r.bits r.more
def fileD (r : FRow) : Dat := .list [.int r.kind, .str r.name, .int r.bits, .int r.more]
def heardD (r : FRow) : Dat := match tellX (replyOf r) with
  | none => .list [.str (Str.ofString "refused"), .bool true]
  | some d => .list [.str (Str.ofString "told"), .str d]
def putS (S : List Row) (k v : Str) : List Row := if S.any (fun kv => decide (kv.1 = k)) = true then S.map (fun kv => if kv.1 = k then (kv.1, v) else kv) else S ++ [(k, v)]
def restOf (r : FRow) (d : Str) : Str := Txt.slice (replyOf r) (some (7 + (d.length : Nat) + Txt.count d (Str.ofString "\""))) none
def listStep (S : List Row) (r : FRow) : List Row := match tellX (replyOf r) with
  | none => S
  | some d => if d = Str.ofString "" then S else putS S d (restOf r d)
def listP (rows : List FRow) : List Row := rows.foldl listStep []
theorem putS_len (S : List Row) (k v : Str) : (putS S k v).length ≤ S.length + 1 := by
  unfold putS
  split <;> simp
theorem listStep_len (S : List Row) (r : FRow) : (listStep S r).length ≤ S.length + 1 := by
  unfold listStep
  split
  · omega
  · split
    · omega
    · exact putS_len _ _ _
theorem listP_take (rows : List FRow) (i : Nat) {r : FRow} (h : rows[i]? = some r) : listP (rows.take (i + 1)) = listStep (listP (rows.take i)) r := by
  unfold listP
  rw [List.take_add_one, h]
  simp [List.foldl_append]
theorem listP_len (rows : List FRow) : ∀ i, i ≤ rows.length → (listP (rows.take i)).length ≤ i
  | 0, _ => by simp [listP]
  | i + 1, h => by
    rw [listP_take rows i (List.getElem?_eq_getElem h)]
    have := listP_len rows i (by omega)
    have := listStep_len (listP (rows.take i)) rows[i]
    omega
/-- a dict's pairs, told as texts -/
inductive KvIs : List (Str × Value) → List Row → Prop
  | nil : KvIs [] []
  | cons {k v : Str} {t : Tok} {kvs : List (Str × Value)} {S : List Row} : KvIs kvs S → KvIs ((k, .str v t) :: kvs) ((k, v) :: S)
theorem KvIs.length {kvs : List (Str × Value)} {S : List Row} (h : KvIs kvs S) : kvs.length = S.length := by
  induction h with
  | nil => rfl
  | cons _ ih => simp [ih]
theorem KvIs.any {kvs : List (Str × Value)} {S : List Row} (h : KvIs kvs S) (k : Str) : kvs.any (fun kv => decide (kv.1 = k)) = S.any (fun kv => decide (kv.1 = k)) := by
  induction h with
  | nil => rfl
  | cons _ ih => simp [ih]
theorem KvIs.append {kvs kvs' : List (Str × Value)} {S S' : List Row} (h : KvIs kvs S) (h' : KvIs kvs' S') : KvIs (kvs ++ kvs') (S ++ S') := by
  induction h with
  | nil => exact h'
  | cons _ ih => exact .cons ih
theorem KvIs.map {kvs : List (Str × Value)} {S : List Row} (h : KvIs kvs S) (k v : Str) (t : Tok) : KvIs (kvs.map fun kv => if kv.1 = k then (kv.1, .str v t) else kv) (S.map fun kv => if kv.1 = k then (kv.1, v) else kv) := by
  induction h with
  | nil => exact .nil
  | @cons k' v' t' kvs S h ih =>
    rw [List.map_cons, List.map_cons]
    by_cases e : k' = k
    · rw [if_pos e, if_pos e]; exact .cons ih
    · rw [if_neg e, if_neg e]; exact .cons ih
theorem KvIs.put {kvs : List (Str × Value)} {S : List Row} (h : KvIs kvs S) (k v : Str) (t : Tok) : KvIs (PySem.stored kvs k (.str v t)) (putS S k v) := by
  unfold PySem.stored putS
  rw [← h.any k]
  split
  · exact h.map k v t
  · exact h.append (.cons .nil)
theorem KvIs.get {kvs : List (Str × Value)} {S : List Row} (h : KvIs kvs S) : ∀ {i : Nat} {k : Str} {x : Value}, kvs[i]? = some (k, x) → ∃ v t, S[i]? = some (k, v) ∧ x = .str v t := by
  induction h with
  | nil => intro i k x h; simp at h
  | cons _ ih =>
    intro i k x h
    cases i with
    | zero => simp at h; obtain ⟨rfl, rfl⟩ := h; exact ⟨_, _, rfl, rfl⟩
    | succ i => simpa using ih (by simpa using h)
/-- the data of a list, told of the frozen objects -/
def YD (G₁ : Ldg) (hs : List Value) (ds : List Dat) : MonP := ⟨fun G => DatAll G hs ds ∧ ∀ p ∈ G₁, p ∈ G, fun G G' s h => ⟨h.1.mono s, fun p hp => s p (h.2 p hp)⟩⟩
section
variable {w : World} {c : XC} {nm : List (Str × Value)} {ex : Ldg} {Y : MonP} {lv : List (Str × Dat)} {loose : List Str} {mean : ExcName → Option Value} {mg mb : Str → Option Value}
/-- a call of a def that keeps all -/
theorem Ev.callP {g₀ : Heap} {envL env : Env} {f : Addr} {fn : Str} {pos npos : Pos} {need : Nat} {e₀ : PySem.Expr} {es : List PySem.Expr} {ds : List Dat} {d : Dat} {dp un : Nat} {gd : Option (List Code)} {cn : Str} {cs : Scope} {a : Addr} {ccd : Value} {cl : List (Str × Addr)} {fo : Obj} {fd : FuncData}
    (hc : c.h₀ = hideAll g₀ [c.L]) (hL0 : ∃ o, g₀.get? c.L = some o) (hfl : envL.frame = some c.L) (hkl : envL.scope.kind = .function) (X : (hd.heap_39 w.params).In c.h₀) (T : Top hd.view_39 loose mean mg mb c.h₀) (hk : cs.kind = .function) (hd1 : dp + 10 * need < recursionLimit) (hu : un + 40 * need + 64 < cLine)
    (k : FnD f need ds d) (hargs : EvL PySem.Challenge.rw_om0036_01.row.prog w (ktrTop dp un gd cn cs c.F a ccd cl [envL]) c.F env (XP c nm ex Y lv) (e₀ :: es) ds)
    (hg : nsIn (hd.heap_39 w.params) mainGlobals fn = some (some (.ref f)) := by rfl) (ho : (hd.heap_39 w.params).lookup f = some fo := by rfl) (hfo : fo.data = .func fd := by rfl) (hke : env.scope.kind = .function := by kernel_rfl!) (hx : env.kindOf fn = some .globalImplicit := by kernel_rfl!) (hgl : env.globals = mainGlobals := by kernel_rfl!) (hdb : (fn == ("__debug__" : Str)) = false := by kernel_rfl!)
    (he : starEach (e₀ :: es) env = (false, eval e₀ env) :: starEach es env := by rfl)
    (hcall : eval (.Call (.Name fn npos) (e₀ :: es) [] pos) env = (do callWith pos (← eval (.Name fn npos) env) [] (backTo pos (starEach (e₀ :: es) env)) (backToKw pos (keywordEach [] env))) := by rfl) :
    Ev PySem.Challenge.rw_om0036_01.row.prog w (ktrTop dp un gd cn cs c.F a ccd cl [envL]) c.F env (XP c nm ex Y lv) (.Call (.Name fn npos) (e₀ :: es) [] pos) d := Ev.of fun s G Q E hp hP hl q => by
  obtain ⟨m, F⟩ := XP.frame.fr _ _ hP
  refine Call_ (Name_function_global hke hx (loadGlobal_global (by rw [hgl]; exact T.g.keeps F.keep) (mg_of X T.g hg) ?_) hdb) hcall
  refine callWith_def hfo (hargs.run pos s G _ _ hp hP hl fun vs h' tk G' hp' x dvs => ?_) he
  have hP' := XP.frame.stab _ _ _ _ hP x
  obtain ⟨m', F'⟩ := XP.frame.fr _ _ hP'
  refine ⟨F'.keep _ _ (X _ _ ho), ?_⟩
  obtain ⟨g, mg', up, FG, BG⟩ := xp_ground (A₁ := { callerA with frames := some [envL] }) hc hL0 rfl hfl hkl hP'
  refine k.run w loose mean mg mb dp un gd cn cs a ccd cl [envL] { callerA with frames := some [envL] } c.h₀ g c.F mg' { s with heap := h', toks := tk } G' vs Q E BG (X.keeps up) (T.keeps up) hk hd1 hu FG hp' x.led dvs fun v h'' tk' G'' kp sub fr led dv => ?_
  refine q v h'' tk' G'' (x.trans ⟨fun b o _ e => kp b o e, fun m2 n => n.at' fun o e => kp _ _ e, sub, fun p hp => (fr p hp).imp id fun q => ⟨q, fun e => ?_⟩, led⟩) dv
  obtain ⟨o, _, _, ho', _⟩ := F'.ns
  try dsimp only at q
  (first | exact noAt e q ho' | exact noIs e q ho' | exact (noAt e q ho').elim | exact (noIs e q ho').elim | (rw [e, ho'] at q; cases q))
end
end Mine
end

section
open PySem PySem.W PyProof.Rows PySem.Calls PySem.SeqAt
set_option Elab.async false
set_option maxRecDepth 100000
set_option linter.all false
set_option maxHeartbeats 1000000
set_option pp.deepTerms.threshold 8
set_option pp.deepTerms false
set_option pp.proofs.threshold 2
namespace Mine
section
variable {prog : Program} {w : World} {A : Around} {env : Env} {c : XC} {nm : List (Str × Value)} {ex : Ldg} {Y : MonP} {lv : List (Str × Dat)}
theorem meth_eq0 {nm meth : Str} {p1 ap pos : Pos} (hp : (ap.endLine == pos.line) = true) : eval (.Call (.Attribute (.Name nm p1) meth ap) [] [] pos) env = (do
      let ov ← eval (.Name nm p1) env
      standAt ap.atName
      let (f, first) ← holding [ov] (getMethod ov meth (do return (← importBound (.Name nm p1) env).getD true))
      callWith pos f first (backTo pos (starEach [] env)) []) := by
  show (do
    let ov ← eval (.Name nm p1) env
    standAt ap.atName
    methodCall (.Name nm p1) meth ap pos env ov 0 (backTo pos (starEach [] env)) []) = _
  unfold methodCall
  have e1 : methodCallForm 0 (backTo pos (starEach [] env)) [] = true := rfl
  rw [e1]
  have e2 : methodCallPos true (.Name nm p1) env ap pos = pure pos := by
    unfold methodCallPos
    rw [hp]; rfl
  rw [e2]
  rfl
/-- [[a, b] for a, b in d.items()] -/
theorem Ev.itemsComp {D : Addr} {oD : Obj} {kvs : List (Str × Value)} {S : List Row} {dn a b : Str} {p1 p2 lp pa pb tp np ap cp pos : Pos} {kk : Nat} {scope : Scope} {cl : List (Str × Addr)}
    (hh : A.handled = none) (hD : (D, oD) ∈ ex) (hdo : oD.IsDictOf (PySem.strKind prog w) kvs) (hkv : KvIs kvs S) (hds : (D == sysModules) = false) (hn : (dn, Value.ref D) ∈ nm) (hsz : S.length ≤ 1000)
    (hloc : env.locals = c.F) (hkd : env.scope.kind = .function) (hdn : env.kindOf dn = some .local) (hdd : (dn == ("__debug__" : Str)) = false) (hpos : (ap.endLine == cp.line) = true)
    (hclos : closureFor scope env = pure cl) (hcell : ∀ y ∈ scope.names, y.2 ≠ .cell) (hkind : scope.kind = .function) (hnames : ∀ x ∈ scope.names, x.2 = .local → scope.names.lookup x.1 = some .local)
    (hxa : scope.names.lookup a = some .local) (hxb : scope.names.lookup b = some .local) (hab : (a == b) = false) (had : (a == ("__debug__" : Str)) = false) (hbd : (b == ("__debug__" : Str)) = false)
    (hs : ∀ x, foldedSetIterable (.Call (.Attribute (.Name dn np) (Str.ofString "items") ap) [] [] cp) env x = pure x := by intro _; rfl) :
    Ev prog w A c.F env (XP c nm ex Y lv) (.ListComp (.List [.Name a p1, .Name b p2] lp) [⟨.Tuple [.Name a pa, .Name b pb] kk tp, .Call (.Attribute (.Name dn np) (Str.ofString "items") ap) [] [] cp, [], 0⟩] scope pos) (.list (S.map rowOf)) := Ev.of fun s G Q E hp hP hl k => by
  rw [arm_eval_ListComp]
  refine wpAny_comprehension_free (use := none) rfl hs hclos hkind hnames ?_
  show wpAny (model prog w) A (eval (.Call (.Attribute (.Name dn np) (Str.ofString "items") ap) [] [] cp) env) _ E s
  obtain ⟨m, n1, n2⟩ := hP.nm
  obtain ⟨eD, hDF, hDL', hD0, hDG⟩ := hP.ex _ hD
  dsimp only at eD hDF hDL' hD0 hDG
  have hDH : s.heap.DictOf (PySem.strKind prog w) D kvs := Heap.dictOf_iff.mpr ⟨oD, eD, hdo⟩
  refine MethodCall_ (wpAny_Name (wpAny_loadName_local hkd hdn (by rw [hloc]; exact n1) (n2 _ hn) ?_) hdd) (meth_eq0 hpos)
  refine getMethod_builtin hDH.typeIs PySem.F.plainAttrs_dict PySem.F.slot_dict_items PySem.F.type_dict_items hDH.mapOf.noDict ?_
  refine callWith_method0 ?_
  refine call_meetsIn PySem.F.slot_dict_items hDH.typeIs PySem.F.entry_dict_items (PySem.F.args_dict_items_1 _) (meets_dict_items (PySem.strKind prog w) D hds) ⟨⟨kvs, hDH⟩, ?_⟩
  have hV : (s.heap.push { cls := .type "dict_items", data := .fields #[.ref D] }).IsItemsView s.heap.objs.size D := ⟨_, Heap.get?_push_size _ rfl, rfl, rfl⟩
  have kV : Kp s.heap (s.heap.push { cls := .type "dict_items", data := .fields #[.ref D] }) := fun b o e => Heap.get?_push_of_some _ e
  generalize s.heap.push { cls := .type "dict_items", data := .fields #[.ref D] } = h' at hV kV ⊢
  generalize s.heap.objs.size = vw at hV ⊢
  have x : Ext c.F G s.heap G h' := Ext.of_kp hl kV
  have hP' := XP.frame.stab _ _ _ _ hP x
  have eD' := kV _ _ eD
  obtain ⟨ep, hat⟩ := Heap.DictOf.dictAt (Heap.dictOf_iff.mpr ⟨oD, eD', hdo⟩ : h'.DictOf (PySem.strKind prog w) D kvs)
  refine wpAny_pyIter_items (s := { s with heap := h' }) hV hat ?_
  have KT := kti_itemsTurns (prog := prog) (w := w) (A := A) (knd := PySem.strKind prog w) (elts := [.Name a pa, .Name b pb]) (kk := kk) (pos := tp) hh h'.objs.size D (Nat.ne_of_lt (Heap.lt_size eD')) kvs ep
  have hlenv : kvs.length = S.length := hkv.length
  have hflat : (((List.range kvs.length).filter fun _ => true).flatMap fun i => [rowOf (S.getD i (Str.ofString "", Str.ofString ""))]) = S.map rowOf := by
    have := range_flat (Str.ofString "", Str.ofString "") (fun _ => true) (fun r : Row => [rowOf r]) S
    rw [hlenv, this, List.filter_eq_self.mpr (by simp), flat_one]
  refine src_block (s₁ := { s with heap := h' }) (G₁ := G) (emit := fun cenv acc => do let _ ← PySem.call (.builtin "list.append") [acc, ← eval (.List [.Name a p1, .Name b p2] lp) cenv]) (fun i => [(a, .str (S.getD i (Str.ofString "", Str.ofString "")).1), (b, .str (S.getD i (Str.ofString "", Str.ofString "")).2)]) (fun _ => true) (fun i => [rowOf (S.getD i (Str.ofString "", Str.ofString ""))]) XP.frame hcell hkind (fun _ _ _ => by rfl) hP' x.led hp (by rw [hflat, List.length_map, sizeLine_eq]; omega) rfl (Heap.lt_size eD') hDF KT
    (fun i h hst => hst.1.elim fun _ r => r.elim fun _ r => ⟨_, r⟩) (fun h k e => ⟨⟨_, _, e⟩, hat.keep k⟩) (fun Q E s' e q => kcp_self e q) (fun C i hi s' G₂ v m2 Q' E' hPv l₂ sub off nn kk2 => ?_) (fun C i hi => EvTs.nil)
    (fun C Dl i g Gg hi hc hDL hDC hCL _ _ _ => em_one hDL hDC hCL (Ev.list (CP.frame XP.frame) (.cons (CP.frame XP.frame) (Ev.loc (env := compEnvC scope cl C env) (CP.at (.head _)) hkind (lookup_relabel_local hxa) had) (.cons (CP.frame XP.frame) (Ev.loc (env := compEnvC scope cl C env) (CP.at (.tail _ (.head _))) hkind (lookup_relabel_local hxb) hbd) .nil))))
    (fun Dl C h₂ tk₂ G₂ ys n₂ m₂ hp₂ x₂ dys hn₂ hC₀ hCL offC => ⟨m₂, hn₂, fun h₃ hs₃ => k _ h₃ tk₂ _ (x.trans ⟨fun b o hb e => hs₃.extBut _ _ (fun q => noAt q e hC₀) (x₂.kp b o hb e), fun m nn => (x₂.ns m nn).sameBut hs₃ (Ne.symm hCL), x₂.sub, x₂.fresh, fun p hp => hs₃.extBut _ _ (offC p hp) (x₂.led p hp)⟩) (.list (.head _) ((hflat ▸ dys).mono fun p hp => .tail _ hp))⟩)
  obtain ⟨T, key, kx, xx, rfl, hx, hkey, hT⟩ := hPv
  obtain ⟨vs, t, eS, rfl⟩ := hkv.get hx
  have hg : S.getD i (Str.ofString "", Str.ofString "") = (kx, vs) := by rw [List.getD_eq_getElem?_getD, eS]; rfl
  have hkey' : ∃ tt, key = .str kx tt := by
    cases key <;> simp [PySem.strKind, Value.isStrOf] at hkey
    exact ⟨_, by rw [hkey]⟩
  obtain ⟨tt, rfl⟩ := hkey'
  refine kcp_assign (env := compEnvC scope cl C env) hh hT (lookup_relabel_local hxa) (lookup_relabel_local hxb) (by simp [compEnvC, relabel, hkind]) nn fun h₃ tk₃ n₃ kp₃ => ?_
  have hab' : a ≠ b := by simpa using hab
  refine kk2 h₃ tk₃ _ kp₃ n₃ fun z d e => ?_
  rw [hg] at e
  rcases List.mem_cons.mp e with q | q
  · cases q
    exact ⟨.str kx tt, by simp [hab'], .str _ _⟩
  · cases List.mem_singleton.mp q
    exact ⟨.str vs t, by simp, .str _ _⟩
end
end Mine
end

section
open PySem PySem.W PyProof.Rows PySem.Calls PySem.SeqAt
set_option Elab.async false
set_option maxRecDepth 100000
set_option linter.all false
set_option maxHeartbeats 1000000
set_option pp.deepTerms.threshold 8
set_option pp.deepTerms false
set_option pp.proofs.threshold 2
namespace Mine
/-- the rows sorted: the questions of the sort and their answers -/
structure SortsTo (rs rs' : List Row) : Prop where
  lo : 2 ≤ rs.length
  hi : rs.length < 64
  run : ∃ (f : Nat → Nat → Option Bool) (p : Array Nat), (∀ i j b, f i j = some b → ∃ ri rj, rs[i]? = some ri ∧ rs[j]? = some rj ∧ rlt ri rj = b) ∧ evalAsk (kas_sort rs.length) f = some p ∧ (∀ i ∈ p.toList, i < rs.length) ∧
    (p.toList.map fun i => rs.getD i (Str.ofString "", Str.ofString "")) = rs'
section
variable {prog : Program} {w : World} {A : Around} {h₀ : Heap} {L : Addr} {env : Env} {P : Ldg → Heap → Prop} {K : Frag} {p : Program} {loose : List Str} {mean : ExcName → Option Value} {mg mb : Str → Option Value}
/-- sorted(rows) -/
theorem Ev.sortedRows (st : FrameOk h₀ L P) {e : PySem.Expr} {np cp : Pos} {rs rs' : List Row} (XK : K.In h₀) (TT : Top p loose mean mg mb h₀) (h : Ev prog w A L env P e (.list (rs.map rowOf))) (hS : SortsTo rs rs') (hu : A.units + 10 < cLine)
    (hns : nsIn K mainGlobals (Str.ofString "sorted") = some none) (hkd : env.scope.kind = .function) (hr : env.kindOf (Str.ofString "sorted") = some .globalImplicit) (hg : env.globals = mainGlobals) (hb : env.builtins = builtinsNs)
    (hcall : eval (.Call (.Name (Str.ofString "sorted") np) [e] [] cp) env = (do callWith cp (← eval (.Name (Str.ofString "sorted") np) env) [] (backTo cp (starEach [e] env)) (backToKw cp (keywordEach [] env))) := by rfl)
    (hes : starEach [e] env = (false, eval e env) :: starEach [] env := by rfl) : Ev prog w A L env P (.Call (.Name (Str.ofString "sorted") np) [e] [] cp) (.list (rs'.map rowOf)) := Ev.of fun s G Q E hp hP hl k => by
  obtain ⟨mL, F⟩ := st.fr _ _ hP
  refine Call_ (builtin_name F.keep XK TT hns (v := .builtin "sorted") (by decide +kernel) (by decide +kernel) ?_ hkd hr hg hb (by decide +kernel)) hcall
  refine PyProof.Rows.callWith_builtin1 ((EvL.cons st h EvL.nil hes).run cp s G _ _ hp hP hl fun vs h' tk G' hp' y dvs => ?_) hes (by rfl)
  apply daCons (vs := vs) dvs; intro v vs_1 dv r
  apply daNil (vs := vs_1) r
  obtain ⟨f, q, hf, he, hq, hr'⟩ := hS.run
  have hP' := st.stab _ _ _ _ hP y
  obtain ⟨m, n⟩ := st.ns _ _ hP'
  refine sorted_rows (s := { s with heap := h', toks := tk }) hf hS.lo hS.hi he hq hu y.led n (st.off _ _ hP') dv fun v' h'' G'' z dv' => ?_
  have e1 : q.toList.map (fun i => rowOf (rs.getD i (Str.ofString "", Str.ofString ""))) = rs'.map rowOf := by rw [← hr', List.map_map]; rfl
  rw [e1] at dv'
  exact k v' h'' tk G'' (y.trans z) dv'
end
end Mine
end

section
open PySem PySem.W PyProof.Rows PySem.Calls PySem.SeqAt
set_option Elab.async false
set_option maxRecDepth 100000
set_option linter.all false
set_option maxHeartbeats 2000000
set_option pp.deepTerms.threshold 8
set_option pp.deepTerms false
set_option pp.proofs.threshold 2
namespace Mine
def nmsL (D H : Addr) : List (Str × Value) := [(Str.ofString "listing", .ref D), (Str.ofString "heard", .ref H)]
/-- between two turns of _law_listing -/
inductive LZ (prog : Program) (w : World) (c : XC) (D H : Addr) (rows : List FRow) (I : Addr) (G₁ : Ldg) (i : Nat) (oI : Obj) (G : Ldg) (h : Heap) : Prop
  | mk (hs : List Value) (nh : Nat) (oD : Obj) (kvs : List (Str × Value)) (y : XP c (nmsL D H) [(H, W.listOf (List.toArray hs) nh), (D, oD), (I, oI)] (YD G₁ hs ((rows.take i).map heardD)) [] G h) (l : Led G h)
    (r1 : oD.IsDictOf (PySem.strKind prog w) kvs) (r2 : KvIs kvs (listP (rows.take i))) (r3 : H ≠ D) (r4 : H ≠ I) (r5 : D ≠ I) (r6 : hs.length = i) (r7 : i ≤ rows.length) : LZ prog w c D H rows I G₁ i oI G h
theorem rp_len {r : FRow} (h : (Txt.replace r.name (Str.ofString "\"") (Str.ofString "\"\"")).length ≤ 100) : (replyOf r).length ≤ 200 := by
  have h1 : (rpCode r.kind r.more).length ≤ 10 := by
    unfold rpCode
    repeat' split
    all_goals decide +kernel
  have h2 : (rpHead r.kind r.more).length ≤ 10 := by
    unfold rpHead
    repeat' split
    all_goals decide +kernel
  have h3 : (rpTail r.kind r.bits).length ≤ 20 := by
    unfold rpTail
    repeat' split
    · decide +kernel
    · decide +kernel
    · rw [Str.length_append, fm_len, ll10]; omega
  unfold replyOf rp
  rw [Str.length_append, Str.length_append, Str.length_append]
  omega
theorem scan_len : ∀ (n : Nat) (l : List Nat), l.length ≤ n → (scan l).length ≤ l.length
  | 0, l, h => by
    have : l = [] := List.length_eq_zero_iff.mp (by omega)
    rw [this, scan_nil]; exact Nat.le_refl _
  | n + 1, l, h => by
    cases l with
    | nil => rw [scan_nil]; exact Nat.le_refl _
    | cons c t =>
      have h' : t.length ≤ n := by simpa using h
      by_cases hc : c = 34
      · subst hc
        cases t with
        | nil => rw [scan_q1]; simp
        | cons e t =>
          by_cases he : e = 34
          · subst he
            rw [scan_qq]
            have := scan_len n t (by simp at h'; omega)
            simp; omega
          · rw [scan_q2 he]; simp
      · rw [scan_ne hc]
        have := scan_len n t h'
        simp; omega
theorem told_len {x d : Str} (h : Told257 x d) : d.length ≤ x.length := by
  obtain ⟨_, ⟨_, rfl⟩ | ⟨_, e⟩⟩ := h
  · have : (Str.ofString "").length = 0 := by decide +kernel
    omega
  · have e1 : d.length = d.cps.toList.length := by simp [Str.length]
    have e2 : x.length = x.cps.toList.length := by simp [Str.length]
    rw [e1, e, e2]
    refine Nat.le_trans (scan_len _ _ (Nat.le_refl _)) ?_
    rw [List.length_drop]; omega
/-- behind the try of a turn -/
inductive TryP (c : XC) (D H I : Addr) (G₁ : Ldg) (rows : List FRow) (i : Nat) (r : FRow) (o oD : Obj) (hs : List Value) (s : Shared) (f : Flow) (s' : Shared) : Prop
  | mk (e : f = .next) (d : Str) (h : Heap) (tk : Nat) (G : Ldg) (v : Value) (nh : Nat) (es : s' = { s with heap := h, toks := tk }) (htk : 0 < tk) (y : XP c (nmsL D H) [(H, W.listOf (List.toArray (hs ++ [v])) nh), (D, oD), (I, o)] (YD G₁ (hs ++ [v]) ((rows.take i).map heardD ++ [heardD r])) [(Str.ofString "told", .str d), (Str.ofString "reply", .str (replyOf r))] G h) (l : Led G h)
    (hd : d.length ≤ 1000) (hS : ∀ S, listStep S r = if d = Str.ofString "" then S else putS S d (restOf r d)) : TryP c D H I G₁ rows i r o oD hs s f s'
theorem flisting (rows : List FRow) (S : List Row) (hlen : rows.length ≤ 50) (hnm : ∀ r ∈ rows, r.name.length ≤ 8 ∧ (Txt.replace r.name (Str.ofString "\"") (Str.ofString "\"\"")).length ≤ 100) (hS : SortsTo (listP rows) S) :
    FnX 131 6 [.list (rows.map fileD)] (.list [.list (S.map rowOf), .list (rows.map heardD)]) := by
  constructor
  intro w loose mean mg mb dp un gd cn cs a ccd cl A₀ base h₀ L m s Gs vs Q E B X T hk hd1 hu F offL htk hl dvs k
  apply daCons (vs := vs) dvs; intro v1 vs_1 d1 r
  apply daNil (vs := vs_1) r
  refine wpAny_call ?_
  refine enterC (K := hd.heap_39 w.params) (p := hd.view_39) B F X T rfl rfl hk (by rfl) (by rfl) (show dp < _ from Nat.lt_of_le_of_lt (Nat.le_add_right dp _) hd1) (BindsTo.of_eq rfl) (by rfl) (by decide) (fun L' h₁ tk cells hle F' N' CA B' X' T' => ?_) (by rfl) (by rfl) (by rfl)
  refine hide fun P back => ?_
  have htk1 : 0 < tk := Nat.lt_of_lt_of_le htk hle
  have hLL : L ≠ L' := Nat.ne_of_lt (Nat.lt_of_lt_of_le F.ns.lt F'.above)
  have hLh : h₀.get? L = none := Heap.get?_none_of_le F.above
  have st0 : ∀ b o, h₀.get? b = some o → (hideAll s.heap [L]).get? b = some o := fun b o e => hideAll_get _ (F.keep b o e) (by simp only [List.mem_singleton]; intro q; (first | exact noAt q e hLh | exact noIs q e hLh | exact (noAt q e hLh).elim | exact (noIs q e hLh).elim | (rw [q, hLh] at e; cases e)))
  have X0 := X.keeps st0
  have T0 := T.keeps st0
  have F0 : Fr (hideAll s.heap [L]) L' h₁ _ := ⟨F'.ns, fun b o e => F'.keep _ _ (of_hideAll _ e), by rw [hideAll_size]; exact F'.above⟩
  have l0 : Led Gs (hideAll s.heap [L]) := fun p hp => hideAll_get _ (hl p hp) (by simpa using offL p hp)
  have nL1 : h₁.Ns L m := F.ns.at' fun o e => F'.keep _ _ e
  obtain ⟨en, l1⟩ := FP.enter (lv := [(Str.ofString "files", .list (rows.map fileD))]) (nms := []) (cv := []) (cells := []) F0 l0 (fun x d e => by
    simp only [List.mem_cons, List.not_mem_nil, or_false, Prod.mk.injEq] at e
    obtain ⟨rfl, rfl⟩ := e
    exact ⟨v1, rfl, d1⟩) News.nil (fun x c hx => by cases hx) (fun x c x' hx => by cases hx) (fun x c d hx => by cases hx)
  have hL0 : ∃ o, s.heap.get? L = some o := by obtain ⟨o, _, _, e, _⟩ := F.ns; exact ⟨o, e⟩
  have xp1 : XP ⟨hideAll s.heap [L], L', L, Gs, m⟩ [] [] (YD [] [] []) [(Str.ofString "files", .list (rows.map fileD))] Gs h₁ :=
    ⟨en, ⟨_, F'.ns, (fun p hp => nomatch hp)⟩, (fun p hp => nomatch hp), offL, nL1, hLL, hideAll_none _ (.head _), ⟨DatAll.nil, (fun p hp => nomatch hp)⟩⟩
  have nF1 := F'.ns
  clear en l1 F' N' CA F0
  have l1 : Led Gs h₁ := fun p hp => by
    obtain ⟨_, FF, _⟩ := xp1.fp.loc
    exact FF.keep _ _ (l0 p hp)
  have hL0' : L < h₁.objs.size := nL1.lt
  have hLF : L' < h₁.objs.size := nF1.lt
  generalize hcc : (⟨hideAll s.heap [L], L', L, Gs, m⟩ : XC) = c at xp1
  have cF : L' = c.F := by rw [← hcc]
  have cL : L = c.L := by rw [← hcc]
  have ch : c.h₀ = hideAll s.heap [L] := by rw [← hcc]
  have XC : (hd.heap_39 w.params).In c.h₀ := by rw [ch]; exact X0
  have TC : Top hd.view_39 loose mean mg mb c.h₀ := by rw [ch]; exact T0
  -- listing, heard = ({}, [])
  have kD : Kp h₁ (h₁.push { cls := .type "dict", data := .dict #[] }) := fun b o e => Heap.get?_push_of_some _ e
  have eD : (h₁.push { cls := .type "dict", data := .dict #[] }).get? h₁.objs.size = some { cls := .type "dict", data := .dict #[] } := Heap.get?_push_size _ rfl
  have hDO : Obj.IsDictOf (PySem.strKind Challenge.rw_om0036_01.row.prog w) { cls := .type "dict", data := .dict #[] } [] := by
    obtain ⟨o, ho, hd⟩ := Heap.dictOf_iff.mp (Heap.DictOf.new (knd := PySem.strKind Challenge.rw_om0036_01.row.prog w) h₁)
    rw [eD] at ho
    exact (Option.some.inj ho) ▸ hd
  obtain ⟨xp2, l2⟩ := xp1.own (p := (h₁.objs.size, { cls := .type "dict", data := .dict #[] })) l1 kD eD (Heap.get?_none_of_le (Nat.le_refl _))
  generalize hD2 : h₁.push { cls := .type "dict", data := .dict #[] } = h₂ at xp2 l2 eD kD
  have kH : Kp h₂ (h₂.push (W.listOf (List.toArray []) 0)) := fun b o e => Heap.get?_push_of_some _ e
  have eH : (h₂.push (W.listOf (List.toArray []) 0)).get? h₂.objs.size = some (W.listOf (List.toArray []) 0) := Heap.get?_push_size _ rfl
  have hHD : h₂.objs.size ≠ h₁.objs.size := by rw [← hD2, Heap.size_push]; exact Nat.succ_ne_self _
  obtain ⟨xp3, l3⟩ := xp2.own (p := (h₂.objs.size, W.listOf (List.toArray []) 0)) l2 kH eH (Heap.get?_none_of_le (Nat.le_refl _))
  have nF3 : (h₂.push (W.listOf (List.toArray []) 0)).Ns L' _ := (nF1.at' fun o e => kD _ _ e).at' fun o e => kH _ _ e
  refine back ?_
  clear back P
  refine wpAny_execs_cons (wpToks (s := { s with heap := h₁, toks := tk }) htk1 (asg_swap (names := [Str.ofString "listing", Str.ofString "heard"]) rfl (by kernel_rfl!) ?_ (by decide +kernel) ?_))
  · (repeat' first | with_reducible exact List.forall_mem_nil _ | refine List.forall_mem_cons.mpr ⟨?_, ?_⟩ | kernel_rfl!)
  refine wpAny_items_cons (wpAny_Dict_empty (wpAny_items_cons (wpAny_List (wpAny_items_nil ⟨by decide, wpAny_items_nil ?_⟩)) (by rfl))) (by rfl)
  dsimp only
  rw [hD2]
  refine ⟨rfl, by show 2 ≤ sizeLine; decide, _, nF3, fun h₄ tk₄ m₄ kp₄ n₄ b₄ r₄ htk₄ => ?_⟩
  refine hide fun P back => ?_
  obtain ⟨mB, FB, bB⟩ := xp3.fp.loc
  subst cF
  subst cL
  have eB := ns_uniq FB.ns nF3
  subst eB
  obtain ⟨xp4, l4⟩ := xp3.chg (nm' := nmsL h₁.objs.size h₂.objs.size) (lv' := [(Str.ofString "files", .list (rows.map fileD))]) l3 nF3 n₄ kp₄ (fun x d e => by
    obtain ⟨v, e1, e2⟩ := bB x d e
    refine ⟨v, ?_, e2⟩
    rw [r₄ x, e1]
    simp only [List.mem_cons, List.not_mem_nil, or_false, Prod.mk.injEq] at e
    obtain ⟨rfl, rfl⟩ := e
    decide +kernel) (fun p hp => by
    have hp' : p = (Str.ofString "listing", Value.ref h₁.objs.size) ∨ p = (Str.ofString "heard", Value.ref h₂.objs.size) := by simpa [nmsL] using hp
    rcases hp' with rfl | rfl
    · exact b₄ _ _ (.head _)
    · exact b₄ _ _ (.tail _ (.head _)))
  clear nF3 nF1 FB bB b₄ r₄ n₄ kp₄ xp1 xp2 xp3 eD eH kD kH l1 l2 l3 hD2
  have hHD' := hHD
  have hDS : (h₁.objs.size == sysModules) = false := by
    have e1 := modules_low T.nolimit
    have e2 := F.above
    have : sysModules < h₁.objs.size := Nat.lt_of_lt_of_le e1 (Nat.le_trans e2 (Nat.le_of_lt hL0'))
    simpa using Nat.ne_of_gt this
  generalize h₁.objs.size = D at xp4 hHD hDS
  generalize h₂.objs.size = H at xp4 hHD
  refine back ?_
  clear back P
  refine wpAny_execs_cons (data_for (s₀ := s) rfl htk₄ XP.frame xp4 l4 (Ev.loc (XP.at (.head _))) fun g hI G₁ I oI yg _ lg kp eI _ nI => ?_)
  refine ⟨LZ Challenge.rw_om0036_01.row.prog w c D H rows I G₁, ?_, ?_, ?_, ?_, ?_⟩
  · obtain ⟨y5, l5⟩ := yg.own (p := (I, oI)) lg kp eI nI
    refine ⟨[], 0, _, [], y5.less (fun _ q => nomatch q) (fun _ q => q) (fun p hp => ?_) ⟨.nil, fun p q => q⟩, l5, hDO, .nil, hHD, fun q => ?_, fun q => ?_, rfl, Nat.zero_le _⟩
    · revert p
      (repeat' first | with_reducible exact List.forall_mem_nil _ | with_reducible exact List.mem_cons_self | refine List.forall_mem_cons.mpr ⟨?_, ?_⟩ | with_reducible refine List.mem_cons_of_mem _ ?_)
    · have := (yg.ex (H, _) (.head _)).1
      dsimp only at this
      (first | exact noAt q this nI | exact noIs q this nI | exact (noAt q this nI).elim | exact (noIs q this nI).elim | (rw [q, nI] at this; cases this))
    · have := (yg.ex (D, _) (.tail _ (.head _))).1
      dsimp only at this
      (first | exact noAt q this nI | exact noIs q this nI | exact (noAt q this nI).elim | exact (noIs q this nI).elim | (rw [q, nI] at this; cases this))
  · rintro i o G h ⟨hs, nh, oD, kvs, y, l, _, _, _, _, _, _, _⟩
    exact ⟨(y.ex (I, o) (.tail _ (.tail _ (.head _)))).1, l, y.y.2⟩
  · rintro i o G h h' o' ⟨hs, nh, oD, kvs, y, l, r1, r2, r3, r4, r5, r6, r7⟩ kp' e' _
    obtain ⟨a1, a2, a3, a4, a5⟩ := y.ex (I, o) (.tail _ (.tail _ (.head _)))
    dsimp only at a1 a2 a3 a4 a5
    obtain ⟨y', l'⟩ := y.move (X := [I]) (ex' := [(H, W.listOf (List.toArray hs) nh), (D, oD), (I, o')]) (Y' := YD G₁ hs ((rows.take i).map heardD)) l (fun b ob hb e => kp' b ob (fun q => hb (q ▸ .head _)) e) (fun m n => n.at' fun o q => kp' _ _ (Ne.symm a2) q) (fun m n => n.at' fun o q => kp' _ _ (Ne.symm a3) q) (fun p hp => not1 (a5 p hp)) (fun b ob hb q => by
        rw [List.mem_singleton] at q
        (first | exact noAt q hb a4 | exact noIs q hb a4 | exact (noAt q hb a4).elim | exact (noIs q hb a4).elim | (rw [q, a4] at hb; cases hb))) (List.forall_mem_cons.mpr ⟨.inl ⟨.head _, not1 r4⟩, List.forall_mem_cons.mpr ⟨.inl ⟨.tail _ (.head _), not1 r5⟩, List.forall_mem_cons.mpr ⟨.inr ⟨e', a2, a3, a4, a5⟩, List.forall_mem_nil _⟩⟩⟩) y.y
    exact ⟨hs, nh, oD, kvs, y', l', r1, r2, r3, r4, r5, r6, r7⟩
  · intro i o G h tk v d Q' E' hdi z htk' dv hQ
    obtain ⟨hs, nh, oD, kvs, y, l, r1, r2, r3, r4, r5, r6, r7⟩ := z
    rw [List.getElem?_map] at hdi
    obtain ⟨r, hr, rfl⟩ : ∃ r, rows[i]? = some r ∧ fileD r = d := by
      cases q : rows[i]? with
      | none => (first | exact noBoth q hdi | exact noBoth hdi q | exact (noBoth q hdi).elim | exact (noBoth hdi q).elim | (rw [q] at hdi; cases hdi))
      | some r => rw [q] at hdi; exact ⟨r, rfl, Option.some.inj hdi⟩
    have hrm := List.mem_of_getElem? hr
    obtain ⟨mT, nT, nmT⟩ := y.nm
    refine wpToks (s := { s with heap := h, toks := tk }) htk' ((asg_tuple (C := c.F) (xs := [(Str.ofString "kind", _), (Str.ofString "name", _), (Str.ofString "bits", _), (Str.ofString "more", _)]) (ds := [.int r.kind, .str r.name, .int r.bits, .int r.more]) rfl rfl (by kernel_rfl!) rfl (by (repeat' first | with_reducible exact List.forall_mem_nil _ | refine List.forall_mem_cons.mpr ⟨?_, ?_⟩ | kernel_rfl!)) (by decide +kernel)).run _ G mT v _ _ l nT y.fp.off dv fun h₅ tk₅ m₅ kp₅ n₅ b₅ r₅ htk₅ => ?_)
    dsimp only at kp₅ htk₅
    have r₅' : ∀ x, x ∉ [Str.ofString "kind", Str.ofString "name", Str.ofString "bits", Str.ofString "more"] → m₅ x = mT x := r₅
    obtain ⟨y₅, l₅⟩ := y.chg (nm' := nmsL D H) (lv' := [(Str.ofString "kind", .int r.kind), (Str.ofString "name", .str r.name), (Str.ofString "bits", .int r.bits), (Str.ofString "more", .int r.more)]) l nT n₅ kp₅ b₅ (fun p hp => by
      rw [r₅' p.1 ?_]
      · exact nmT p hp
      · have hp' : p = (Str.ofString "listing", Value.ref D) ∨ p = (Str.ofString "heard", Value.ref H) := by simpa [nmsL] using hp
        rcases hp' with rfl | rfl
        · show Str.ofString "listing" ∉ _; decide +kernel
        · show Str.ofString "heard" ∉ _; decide +kernel)
    clear b₅ r₅ r₅' n₅ nT nmT
    have hnm1 := hnm r hrm
    -- reply, told = (_law_reply(..), '')
    refine wpAny_execs_cons (xp_swap (s₀ := s) (names := [Str.ofString "reply", Str.ofString "told"]) (ds := [.str (replyOf r), .str (Str.ofString "")]) (lvr := []) rfl rfl htk₅ y₅ l₅ ?ev (fun h₆ tk₆ G₆ htk₆ y₆ l₆ => ?kk) rfl (Nat.le_of_ble_eq_true rfl) (fun p hp => nomatch hp) ?hxk (by decide +kernel) (fun p hp => nomatch hp) ?hnm (by kernel_rfl!))
    case ev =>
      refine EvL.cons XP.frame (Ev.callP (dp := dp + 1) (un := un + 3) (envL := envX cn cs c.L a ccd cl) ch hL0 rfl hk XC TC (by rfl) (by omega) (by omega) (frep hnm1.1 hnm1.2) ?_) (EvL.cons XP.frame Ev.cStr EvL.nil)
      exact EvL.cons XP.frame (Ev.loc (XP.at (.head _))) (EvL.cons XP.frame (Ev.loc (XP.at (.tail _ (.head _)))) (EvL.cons XP.frame (Ev.loc (XP.at (.tail _ (.tail _ (.head _))))) (EvL.cons XP.frame (Ev.loc (XP.at (.tail _ (.tail _ (.tail _ (.head _)))))) EvL.nil)))
    case hxk =>
      (repeat' first | with_reducible exact List.forall_mem_nil _ | refine List.forall_mem_cons.mpr ⟨?_, ?_⟩ | kernel_rfl!)
    case hnm =>
      intro p hp
      have hp' : p = (Str.ofString "listing", Value.ref D) ∨ p = (Str.ofString "heard", Value.ref H) := by simpa [nmsL] using hp
      rcases hp' with rfl | rfl
      · show Str.ofString "listing" ∉ _; decide +kernel
      · show Str.ofString "heard" ∉ _; decide +kernel
    change XP c (nmsL D H) [(H, W.listOf (List.toArray hs) nh), (D, oD), (I, o)] (YD G₁ hs ((rows.take i).map heardD)) [(Str.ofString "reply", .str (replyOf r)), (Str.ofString "told", .str (Str.ofString ""))] G₆ h₆ at y₆
    refine wpAny_execs_cons (wpAny_mono (Q := TryP c D H I G₁ rows i r o oD hs s) ?tr (fun f s' q => ?rest) fun _ _ e => e)
    case rest =>
      obtain ⟨rfl, dd, h₇, tk₇, G₇, v₇, nh₇, rfl, htk₇, y₇, l₇, hdl, hstep⟩ := q
      dsimp only
      have hil : i < rows.length := (List.getElem?_eq_some_iff.mp hr).1
      have htake : (rows.take i).map heardD ++ [heardD r] = (rows.take (i + 1)).map heardD := by rw [List.take_add_one, hr]; simp
      rw [htake] at y₇
      have hlp := listP_take rows i hr
      rw [hstep] at hlp
      refine wpAny_execs_cons (wpAny_If ((EvT.cmp XP.frame (Ev.loc (XP.at (.head _))) Ev.cStr ne_sD).run _ G₇ _ _ htk₇ y₇ l₇ fun h₈ tk₈ G₈ htk₈ x₈ => ?_))
      have y₈ := XP.frame.stab _ _ _ _ y₇ x₈
      by_cases hdd : dd = Str.ofString ""
      · rw [if_neg (by simp [hdd])]
        rw [if_pos hdd] at hlp
        refine wpAny_execs_nil (wpAny_execs_nil (hQ h₈ tk₈ G₈ htk₈ ⟨hs ++ [v₇], nh₇, oD, kvs, y₈.less (fun _ q => nomatch q) (fun _ q => q) (fun _ q => q) y₈.y, x₈.led, r1, by rw [hlp]; exact r2, r3, r4, r5, by rw [List.length_append, r6]; rfl, hil⟩))
      · rw [if_pos (by simp [hdd])]
        rw [if_neg hdd] at hlp
        have hrl : (replyOf r).length ≤ 200 := rp_len hnm1.2
        refine wpAny_execs_cons (wpAny_Assign_Subscript ((Ev.sliceStr (x := replyOf r) (i := 7 + (dd.length : Nat) + Txt.count dd (Str.ofString "\"")) XP.frame (Ev.loc (XP.at (.tail _ (.head _)))) (Ev.bin XP.frame (Ev.bin XP.frame Ev.cInt (Ev.lenStr XP.frame XC TC (Ev.loc (XP.at (.head _))) (by omega) (by rfl) (by kernel_rfl!) (by kernel_rfl!) (by kernel_rfl!) (by kernel_rfl!)) add_iD) (Ev.countStr XP.frame (Ev.loc (XP.at (.head _))) Ev.cStr (by rfl)) add_iD) (by rw [sizeLine_eq]; omega)).run _ G₈ _ _ htk₈ y₈ x₈.led fun v₉ h₉ tk₉ G₉ htk₉ x₉ dv₉ => ?_))
        apply dStr (v := v₉) dv₉; intro t₉
        have y₉ := XP.frame.stab _ _ _ _ y₈ x₉
        obtain ⟨m₉, n₉, b₉⟩ := y₉.nm
        obtain ⟨ma, va, na, ea, da⟩ := XP.at (.head _) _ _ y₉
        obtain ⟨ta, rfl⟩ := iStr da
        refine wpAny_Name (wpAny_loadName_local (by kernel_rfl!) (by kernel_rfl!) n₉ (b₉ (Str.ofString "listing", Value.ref D) (.head _)) ?_) (by decide +kernel)
        refine wpAny_Name (wpAny_loadName_local (by kernel_rfl!) (by kernel_rfl!) na ea ?_) (by decide +kernel)
        have hDm : (D, oD) ∈ [(H, W.listOf (List.toArray (hs ++ [v₇])) nh₇), (D, oD), (I, o)] := .tail _ (.head _)
        refine wpToks (s := { s with heap := h₉, toks := tk₉ }) htk₉ (wpAny_setItem_pairs (s := { s with heap := h₉, toks := tk₉ }) (knd := PySem.strKind Challenge.rw_om0036_01.row.prog w) (k := dd) (by simp [PySem.strKind, Value.isStrOf]) (Heap.dictOf_iff.mpr ⟨oD, (y₉.ex _ hDm).1, r1⟩) (fun h₁₀ hm₁₀ hs₁₀ htk₁₀ => ?_) (by rw [r2.length, sizeLine_eq]; have := listP_len rows i r7; omega))
        obtain ⟨oD', eD', hdo'⟩ := Heap.dictOf_iff.mp hm₁₀
        have y₉' := y₉.less (lv' := []) (nm' := nmsL D H) (ex' := [(D, oD), (H, W.listOf (List.toArray (hs ++ [v₇])) nh₇), (I, o)]) (Y' := YD G₁ (hs ++ [v₇]) ((rows.take (i + 1)).map heardD)) (fun _ q => nomatch q) (fun _ q => q) (by (repeat' first | with_reducible exact List.forall_mem_nil _ | with_reducible exact List.mem_cons_self | refine List.forall_mem_cons.mpr ⟨?_, ?_⟩ | with_reducible refine List.mem_cons_of_mem _ ?_)) y₉.y
        obtain ⟨y₁₀, l₁₀⟩ := y₉'.upd x₉.led hs₁₀ eD' (List.forall_mem_cons.mpr ⟨r3, List.forall_mem_cons.mpr ⟨Ne.symm r5, List.forall_mem_nil _⟩⟩) y₉'.y
        refine wpAny_execs_nil (wpAny_execs_nil (hQ h₁₀ _ G₉ htk₁₀ ⟨hs ++ [v₇], nh₇, oD', PySem.stored kvs dd (.str (restOf r dd) t₉), y₁₀.less (fun _ q => q) (fun _ q => q) (by (repeat' first | with_reducible exact List.forall_mem_nil _ | with_reducible exact List.mem_cons_self | refine List.forall_mem_cons.mpr ⟨?_, ?_⟩ | with_reducible refine List.mem_cons_of_mem _ ?_)) y₁₀.y, l₁₀, hdo', by rw [hlp]; exact r2.put dd (restOf r dd) t₉, r3, r4, r5, by rw [List.length_append, r6]; rfl, hil⟩))
    case tr =>
      have hrl : (replyOf r).length ≤ 200 := rp_len hnm1.2
      have hnmA : ∀ z : Str, (Str.ofString "listing" != z) = true → (Str.ofString "heard" != z) = true → ((nmsL D H).all fun p => p.1 != z) = true := fun z h1 h2 => by
        show (Str.ofString "listing" != z && (Str.ofString "heard" != z && true)) = true
        rw [h1, h2]; rfl
      have hnaH : ∀ p ∈ [(D, oD), (I, o)], p.1 ≠ H := List.forall_mem_cons.mpr ⟨Ne.symm r3, List.forall_mem_cons.mpr ⟨Ne.symm r4, List.forall_mem_nil _⟩⟩
      refine wpAny_Try_except ?_
      refine wpAny_execs_cons (xp_asg (s₀ := s) (lvr := [(Str.ofString "reply", .str (replyOf r))]) rfl htk₆ y₆ l₆ (by kernel_rfl!) (fun p hp => by rw [List.mem_singleton] at hp; subst hp; exact .head _) (by kernel_rfl!) (hnmA _ (by decide +kernel) (by decide +kernel)) (by kernel_rfl!)
        (xp_parse (dp := dp + 1) (un := un + 3) (envL := envX cn cs c.L a ccd cl) (x := replyOf r) ch hL0 rfl hk XC TC (by rfl) (by omega) htk₆ y₆ l₆ (by omega) (.head _) (fun d t h₇ tk₇ htk₇ told y₇ l₇ => ?ok) (fun e t tx h₇ tk₇ htk₇ hne R => ?bad) rfl (by rfl) (by kernel_rfl!) (by kernel_rfl!) (by kernel_rfl!) (by decide +kernel) (by kernel_rfl!) (by decide +kernel)))
      case ok =>
        refine ⟨h₇, tk₇, G₆, .str d, rfl, htk₇, y₇, l₇, .str _ _, fun h₈ tk₈ htk₈ y₈ l₈ => ?_⟩
        dsimp only
        refine wpAny_execs_cons (xp_append (s₀ := s) rfl (by kernel_rfl!) htk₈ y₈ l₈ (.tail _ (.head _)) hnaH (Ev.list XP.frame (.cons XP.frame Ev.cStr (.cons XP.frame (Ev.loc (XP.at (.head _))) .nil))) (by omega) (fun h₉ tk₉ G₉ v n' htk₉ dv y₉ l₉ sub₉ => ?_) (by kernel_rfl!) (by decide +kernel) (by kernel_rfl!) (by rfl))
        have htell := tell_of told
        refine wpAny_execs_nil (wpAny_execs_nil ⟨rfl, d, h₉, tk₉, G₉, v, n', rfl, htk₉, y₉.less (fun _ q => q) (fun _ q => q) (fun _ q => q) ⟨y₉.y.1.append (DatAll.one ?_), y₉.y.2⟩, l₉, Nat.le_trans (told_len told) (by omega), fun S => ?_⟩)
        · have : heardD r = .list [.str (Str.ofString "told"), .str d] := by unfold heardD; rw [htell]
          rw [this]; exact dv
        · unfold listStep; rw [htell]
      case bad =>
        refine xp_catch (s₀ := s) (envL := envX cn cs c.L a ccd cl) rfl rfl rfl rfl (by kernel_rfl!) XC TC R htk₇ (by rfl) (by kernel_rfl!) (by kernel_rfl!) (by decide +kernel) (by kernel_rfl!) (by kernel_rfl!) (hnmA _ (by decide +kernel) (by decide +kernel)) (by kernel_rfl!) (fun E₂ h₈ tk₈ oe ot htk₈ y₈ l₈ ow hnee => ?_)
        have y₈' := y₈.less (lv' := [(Str.ofString "reply", .str (replyOf r)), (Str.ofString "told", .str (Str.ofString ""))]) (nm' := (Str.ofString "error", Value.ref e) :: nmsL D H) (ex' := [(H, W.listOf (List.toArray hs) nh), (e, oe), (t, ot), (D, oD), (I, o)]) (Y' := YD G₁ hs ((rows.take i).map heardD)) (fun _ q => q) (fun _ q => q) (by (repeat' first | with_reducible exact List.forall_mem_nil _ | with_reducible exact List.mem_cons_self | refine List.forall_mem_cons.mpr ⟨?_, ?_⟩ | with_reducible refine List.mem_cons_of_mem _ ?_)) y₈.y
        refine wpAny_execs_cons (xp_append (s₀ := s) rfl (by kernel_rfl!) htk₈ y₈' l₈ (.tail _ (.tail _ (.head _))) (fun p hp => ?_) (Ev.list XP.frame (.cons XP.frame Ev.cStr (.cons XP.frame (Ev.cmp XP.frame (Ev.strExc XC TC ow (.tail _ (.head _)) (.tail _ (.tail _ (.head _))) (.head _) (by show un + 3 + 2 < cLine; omega) rfl (by rfl) (by kernel_rfl!) (by kernel_rfl!) (by kernel_rfl!) (by kernel_rfl!) (by kernel_rfl!) (by decide +kernel)) (Ev.loc (XP.at (.head _))) eq_sD) .nil))) (by omega) (fun h₉ tk₉ G₉ v n' htk₉ dv y₉ l₉ sub₉ => ?_) (by kernel_rfl!) (by decide +kernel) (by kernel_rfl!) (by rfl))
        · have := hnee (H, W.listOf (List.toArray hs) nh) (.head _)
          exact (List.forall_mem_cons.mpr ⟨Ne.symm this.1, List.forall_mem_cons.mpr ⟨Ne.symm this.2, List.forall_mem_cons.mpr ⟨Ne.symm r3, List.forall_mem_cons.mpr ⟨Ne.symm r4, List.forall_mem_nil _⟩⟩⟩⟩ : ∀ p ∈ [(e, oe), (t, ot), (D, oD), (I, o)], p.1 ≠ H) p hp
        · have htell := tell_none hne
          refine wpAny_execs_nil (xp_goes (s₀ := s) rfl y₉ l₉ (by kernel_rfl!) (by kernel_rfl!) (hnmA _ (by decide +kernel) (by decide +kernel)) (by kernel_rfl!) (fun h₁₀ tk₁₀ htk₁₀ y₁₀ l₁₀ => ?_))
          refine ⟨rfl, Str.ofString "", h₁₀, tk₁₀, G₉, v, n', rfl, htk₁₀, y₁₀.less (fun p q => ?_) (fun _ q => q) (fun p q => ?_) ⟨y₁₀.y.1.append (DatAll.one ?_), y₁₀.y.2⟩, l₁₀, by decide +kernel, fun S => ?_⟩
          · revert p
            (repeat' first | with_reducible exact List.forall_mem_nil _ | with_reducible exact List.mem_cons_self | refine List.forall_mem_cons.mpr ⟨?_, ?_⟩ | with_reducible refine List.mem_cons_of_mem _ ?_)
          · revert p
            (repeat' first | with_reducible exact List.forall_mem_nil _ | with_reducible exact List.mem_cons_self | refine List.forall_mem_cons.mpr ⟨?_, ?_⟩ | with_reducible refine List.mem_cons_of_mem _ ?_)
          · have : heardD r = .list [.str (Str.ofString "refused"), .bool true] := by unfold heardD; rw [htell]
            rw [this]
            rw [beq_self_eq_true] at dv
            exact dv
          · unfold listStep; rw [htell, if_pos rfl]
  · intro o G h h' tk htk' z kp'
    obtain ⟨hs, nh, oD, kvs, y, l, r1, r2, r3, r4, r5, r6, r7⟩ := z
    obtain ⟨a1, a2, a3, a4, a5⟩ := y.ex (I, o) (.tail _ (.tail _ (.head _)))
    dsimp only at a1 a2 a3 a4 a5
    rw [List.length_map, List.take_length] at r2 y
    obtain ⟨y', l'⟩ := y.move (h' := h') (X := [I]) (ex' := [(H, W.listOf (List.toArray hs) nh), (D, oD)]) (Y' := YD G₁ hs (rows.map heardD)) l (fun b ob hb e => kp' b ob (fun q => hb (q ▸ .head _)) e) (fun m n => n.at' fun o q => kp' _ _ (Ne.symm a2) q) (fun m n => n.at' fun o q => kp' _ _ (Ne.symm a3) q) (fun p hp => not1 (a5 p hp)) (fun b ob hb q => by
        rw [List.mem_singleton] at q
        (first | exact noAt q hb a4 | exact noIs q hb a4 | exact (noAt q hb a4).elim | exact (noIs q hb a4).elim | (rw [q, a4] at hb; cases hb))) (List.forall_mem_cons.mpr ⟨.inl ⟨.head _, not1 r4⟩, List.forall_mem_cons.mpr ⟨.inl ⟨.tail _ (.head _), not1 r5⟩, List.forall_mem_nil _⟩⟩) y.y
    dsimp only
    refine wpAny_execs_cons (wpAny_Return_some (wpAny_List (wpAny_items_cons ((Ev.sortedRows XP.frame XC TC (Ev.itemsComp rfl (.tail _ (.head _)) r1 r2 hDS (.head _) (by have := listP_len rows rows.length (Nat.le_refl _); rw [List.take_length] at this; omega) rfl (by kernel_rfl!) (by kernel_rfl!) (by decide +kernel) (by rfl) (by rfl) (by decide) (by rfl) (by decide) (by kernel_rfl!) (by kernel_rfl!) (by decide +kernel) (by decide +kernel) (by decide +kernel)) hS (by show un + 3 + 10 < cLine; omega) (by rfl) (by kernel_rfl!) (by kernel_rfl!) (by kernel_rfl!) (by kernel_rfl!)).run _ G _ _ htk' y' l' fun v₁ h₈ tk₈ G₈ htk₈ x₈ dv₈ => ?_) (by rfl))))
    have y₈ := XP.frame.stab _ _ _ _ y' x₈
    obtain ⟨m₈, n₈, b₈⟩ := y₈.nm
    refine wpAny_items_cons (wpAny_Name (wpAny_loadName_local (by kernel_rfl!) (by kernel_rfl!) n₈ (b₈ (Str.ofString "heard", Value.ref H) (.tail _ (.head _))) (wpAny_items_nil ⟨by show 2 ≤ sizeLine; decide, ?_⟩)) (by decide +kernel)) (by rfl)
    dsimp only
    have cG : c.G₀ = Gs := by rw [← hcc]
    have cm : c.mL = m := by rw [← hcc]
    have ho : ∀ b o, b ≠ c.L → s.heap.get? b = some o → c.h₀.get? b = some o := fun b o hb e => by rw [ch]; exact hideAll_get _ e (by simpa using hb)
    have gone : ∀ b, b ≠ c.L → c.h₀.get? b = none → s.heap.get? b = none := fun b hb e => by
      cases q : s.heap.get? b with
      | none => rfl
      | some o => rw [ho b o hb q] at e; cases e
    obtain ⟨mF', FF', _⟩ := y₈.fp.loc
    have eH := y₈.ex (H, W.listOf (List.toArray hs) nh) (.head _)
    dsimp only at eH
    have hsz : s.heap.objs.size ≤ h₈.objs.size := by
      have h1 : s.heap.objs.size ≤ c.F := by
        have := FF'.above
        rw [ch, hideAll_size] at this
        exact this
      exact Nat.le_trans h1 (Nat.le_of_lt FF'.ns.lt)
    refine k _ _ _ ((h₈.objs.size, { cls := .type "list", data := .seq (List.toArray [v₁, Value.ref H]) 0 }) :: (H, W.listOf (List.toArray hs) nh) :: G₈) ⟨fun b o hb e => Heap.get?_push_of_some _ (FF'.keep _ _ (ho b o hb e)), fun m' n' => ?_, fun p hp => .tail _ (.tail _ (y₈.fp.sub p (by rw [cG]; exact hp))), fun p hp => ?_, fun p hp => ?_⟩ (.list (n := 0) (.head _) (.cons (dv₈.mono fun p hp => .tail _ (.tail _ hp)) (.cons (.list (.tail _ (.head _)) (y₈.y.1.mono fun p hp => .tail _ (.tail _ hp))) .nil)))
    · have := ns_uniq F.ns n'
      subst this
      have hlaw := y₈.law
      rw [cm] at hlaw
      exact hlaw.at' fun o e => Heap.get?_push_of_some _ e
    · rcases List.mem_cons.mp hp with rfl | hp
      · refine .inr ⟨Heap.get?_none_of_le hsz, fun q => ?_⟩
        have h2 : c.L < h₈.objs.size := y₈.law.lt
        dsimp only at q
        rw [q] at h2; exact Nat.lt_irrefl _ h2
      · rcases List.mem_cons.mp hp with rfl | hp
        · exact .inr ⟨gone _ eH.2.2.1 eH.2.2.2.1, eH.2.2.1⟩
        · rcases y₈.fp.new p hp with q | q
          · exact .inl (by rw [← cG]; exact q)
          · exact .inr ⟨gone _ (y₈.off p hp) q, y₈.off p hp⟩
    · rcases List.mem_cons.mp hp with rfl | hp
      · exact Heap.get?_push_size _ rfl
      · rcases List.mem_cons.mp hp with rfl | hp
        · exact Heap.get?_push_of_some _ eH.1
        · exact Heap.get?_push_of_some _ (x₈.led p hp)
end Mine
end

section
open PySem PySem.W PyProof.Rows PySem.Calls PySem.SeqAt
set_option Elab.async false
set_option maxRecDepth 100000
set_option linter.all false
set_option maxHeartbeats 1000000
set_option pp.deepTerms.threshold 8
set_option pp.deepTerms false
set_option pp.proofs.threshold 2
namespace Mine
section
variable {prog : Program} {w : World} {A : Around} {h₀ : Heap} {L : Addr} {env : Env} {P : Ldg → Heap → Prop} {K : Frag} {p : Program} {loose : List Str} {mean : ExcName → Option Value} {mg mb : Str → Option Value}
inductive IsT (G : Ldg) (h : Heap) (v : Value) (ds : List Dat) : Prop
  | mk (a : Addr) (vs : List Value) (e : v = .ref a) (ht : IsTup h a (List.toArray vs)) (r : DatAll G vs ds) : IsT G h v ds
theorem isTup_of {G : Ldg} {h : Heap} {v : Value} {ds : List Dat} (l : Led G h) (d : DatIn G v (.tuple ds)) : IsT G h v ds := by
  cases d with
  | tuple hm r => exact ⟨_, _, rfl, ⟨_, l _ hm, rfl, _, rfl⟩, r⟩
/-- list(a tuple) -/
theorem Ev.listOfTup (st : FrameOk h₀ L P) {e : PySem.Expr} {np cp : Pos} {ds : List Dat} (XK : K.In h₀) (TT : Top p loose mean mg mb h₀) (h : Ev prog w A L env P e (.tuple ds)) (hsz : ds.length ≤ 1000)
    (hns : nsIn K mainGlobals (Str.ofString "list") = some none) (hkd : env.scope.kind = .function) (hr : env.kindOf (Str.ofString "list") = some .globalImplicit) (hg : env.globals = mainGlobals) (hb : env.builtins = builtinsNs)
    (hcall : eval (.Call (.Name (Str.ofString "list") np) [e] [] cp) env = (do callWith cp (← eval (.Name (Str.ofString "list") np) env) [] (backTo cp (starEach [e] env)) (backToKw cp (keywordEach [] env))) := by rfl)
    (hes : starEach [e] env = (false, eval e env) :: starEach [] env := by rfl) : Ev prog w A L env P (.Call (.Name (Str.ofString "list") np) [e] [] cp) (.list ds) := Ev.of fun s G Q E hp hP hl k => by
  obtain ⟨mL, F⟩ := st.fr _ _ hP
  refine Call_ (builtin_name F.keep XK TT hns (v := .type "list") (by decide +kernel) (by decide +kernel) ?_ hkd hr hg hb (by decide +kernel)) hcall
  refine PyProof.Rows.callWith_type1 ((EvL.cons st h EvL.nil hes).run cp s G _ _ hp hP hl fun vs h' tk G' hp' y dvs => ?_) hes (by rfl)
  apply daCons (vs := vs) dvs; intro v vs_1 dv r
  apply daNil (vs := vs_1) r
  obtain ⟨a, us, rfl, ht, r⟩ := isTup_of y.led dv
  have hP' := st.stab _ _ _ _ hP y
  obtain ⟨m, n⟩ := st.ns _ _ hP'
  refine list_copyKT (s := { s with heap := h', toks := tk }) (useF n) (useN (L := L)) ht (fun D c h'' F'' N'' hD => ?_) (by rw [List.size_toArray, r.length, sizeLine_eq]; omega)
  have hnew : h'.get? D = none := by
    cases e : h'.get? D with
    | none => rfl
    | some o =>
      have hDL : D ≠ L := (N'' _ (.head _)).2.1
      exact absurd (hD (D, o) (mem_objsBut.mpr ⟨e, hDL⟩)) (Nat.lt_irrefl _)
  have x := backFN (tl := [(D, W.listOf (List.toArray us) c)]) y.led n (st.off _ _ hP') F'' N'' (fun q hq => by rw [List.mem_singleton] at hq; subst hq; exact hnew)
  exact k _ h'' _ _ (y.trans x) (.list (.head _) (r.mono fun p hp => .tail _ hp))
end
section
variable {prog : Program} {w : World} {A : Around} {h₀ : Heap} {L : Addr} {env : Env} {s₀ : Shared} {Q : Flow → Shared → Prop} {E : Value → Shared → Prop} {G₀ : Ldg} {cells : List (Str × Addr)} {lv lvr : List (Str × Dat)} {cv : List (Str × Addr × Dat)}
/-- x = e, what was known of x forgotten -/
theorem Run.asgR {x : Str} {pos' pos : Pos} {value : PySem.Expr} {rest : List Stmt} {d : Dat} (hL : env.locals = L) (h : Ev prog w A L env (FP h₀ L G₀ cells lv cv) value d) (hsub : ∀ p ∈ lvr, p ∈ lv)
    (k : Run prog w A env s₀ (FP h₀ L G₀ cells ((x, d) :: lvr) cv) rest Q E) (hs : swapsWith value (some (.Name x pos')) pos.line env = pure false := by rfl) (hx : env.kindOf x = some .local := by kernel_rfl!) (hnw : (lvr.all fun p => p.1 != x) = true := by kernel_rfl!)
    (hp : (env.scope.kind == .class || (env.scope.kind == .module && env.locals != env.globals)) = false := by kernel_rfl!) :
    Run prog w A env s₀ (FP h₀ L G₀ cells lv cv) (.Assign [.Name x pos'] value pos :: rest) Q E := .mk fun h' tk G htk hP hl => by
  subst hL
  refine wpAny_execs_cons (wpAny_Assign_Name (h.run _ G _ _ htk hP hl fun v h₂ tk₂ G₂ htk₂ z dv => ?_) hs)
  have hP₂ := FP.frame.stab _ _ _ _ hP z
  obtain ⟨m, F, b⟩ := hP₂.loc
  refine wpToks (s := { s₀ with heap := h₂, toks := tk₂ }) htk₂ (wpAny_storeName_local hx F.ns (fun h₃ hn hs₃ htk₃ => ?_) hp)
  obtain ⟨y, l₃⟩ := hP₂.chg (lv' := (x, d) :: lvr) z.led hn (fun b o hb e => hs₃.extBut b o hb e) (binds_cons (fun z d e => b z d (hsub _ e)) dv hnw)
  exact k.run h₃ _ G₂ htk₃ y l₃
theorem zip_binds {G : Ldg} : ∀ (ns : List Str) (us : List Value) (cs : List Dat), ns.length = cs.length → DatAll G us cs → ∀ x d, (x, d) ∈ ns.zip cs → ∃ v, (x, v) ∈ ns.zip us ∧ DatIn G v d
  | [], us, cs, _, _, x, d, e => by simp at e
  | n :: ns, us, cs, hl1, da, x, d, e => by
    cases da with
    | nil => simp at e
    | @cons u us c cs du da =>
      rcases List.mem_cons.mp e with q | q
      · cases q
        exact ⟨u, .head _, du⟩
      · obtain ⟨v, e1, e2⟩ := zip_binds ns us cs (by simpa using hl1) da x d q
        exact ⟨v, .tail _ e1, e2⟩
/-- names = (e, f, ..) -/
theorem Run.swap {elts es : List PySem.Expr} {kk k2 : Nat} {tp p2 pos : Pos} {names : List Str} {ds : List Dat} {rest : List Stmt} (hh : A.handled = none) (hL : env.locals = L) (h : EvL prog w A L env (FP h₀ L G₀ cells lv cv) es ds) (hsub : ∀ p ∈ lvr, p ∈ lv)
    (k : Run prog w A env s₀ (FP h₀ L G₀ cells (names.zip ds ++ lvr) cv) rest Q E)
    (hlen : names.length = ds.length) (hsz : ds.length ≤ 10) (hxk : ∀ x ∈ names, env.kindOf x = some .local) (nd : names.Nodup) (hnw : ∀ p ∈ lvr, p.1 ∉ names)
    (hp : (env.scope.kind == .class || (env.scope.kind == .module && env.locals != env.globals)) = false := by kernel_rfl!)
    (hs : swapsWithSole [.Tuple elts kk tp] (.Tuple es k2 p2) pos.line env = pure false := by rfl) (hw : swappedStores [.Tuple elts kk tp] (.Tuple es k2 p2) env = pure (some names) := by rfl) :
    Run prog w A env s₀ (FP h₀ L G₀ cells lv cv) (.Assign [.Tuple elts kk tp] (.Tuple es k2 p2) pos :: rest) Q E := .mk fun h' tk G htk hP hl => by
  refine wpAny_execs_cons (wpToks (s := { s₀ with heap := h', toks := tk }) htk (asg_swap hh hp hxk nd (h.run p2 _ G _ _ htk hP hl fun vs h₂ tk₂ G₂ htk₂ z dvs => ?_) hs hw))
  have hP₂ := FP.frame.stab _ _ _ _ hP z
  obtain ⟨m, F, b⟩ := hP₂.loc
  have hvl : vs.length = names.length := by rw [dvs.length, hlen]
  refine ⟨hvl, by rw [dvs.length, sizeLine_eq]; omega, m, by rw [hL]; exact F.ns, fun h₃ tk₃ m₃ kp₃ n₃ b₃ r₃ htk₃ => ?_⟩
  rw [hL] at kp₃ n₃
  have bb : Binds G₂ m₃ (names.zip ds ++ lvr) := fun x d e => by
    rcases List.mem_append.mp e with q | q
    · obtain ⟨v, e1, e2⟩ := zip_binds names vs ds hlen dvs x d q
      exact ⟨v, b₃ x v e1, e2⟩
    · obtain ⟨v', e1, e2⟩ := b x d (hsub _ q)
      exact ⟨v', (r₃ x (hnw _ q)).trans e1, e2⟩
  obtain ⟨y, l₃⟩ := hP₂.chg z.led n₃ kp₃ bb
  exact k.run h₃ _ G₂ htk₃ y l₃
/-- x, y = e, e a tuple -/
theorem Run.asgTup {xs : List (Str × Pos)} {kk : Nat} {tp pos : Pos} {value : PySem.Expr} {rest : List Stmt} {ds : List Dat} (hh : A.handled = none) (hL : env.locals = L) (h : Ev prog w A L env (FP h₀ L G₀ cells lv cv) value (.tuple ds))
    (k : Run prog w A env s₀ (FP h₀ L G₀ cells ((xs.map (·.1)).zip ds ++ lv) cv) rest Q E)
    (hl' : xs.length = ds.length) (hxk : ∀ p ∈ xs, env.kindOf p.1 = some .local) (nd : (xs.map (·.1)).Nodup) (hnw : (lv.all fun p => !(xs.map (·.1)).contains p.1) = true)
    (hp : (env.scope.kind == .class || (env.scope.kind == .module && env.locals != env.globals)) = false := by kernel_rfl!)
    (hs : swapsWithSole [.Tuple (xs.map fun p => PySem.Expr.Name p.1 p.2) kk tp] value pos.line env = pure false := by rfl) (hw : swappedStores [.Tuple (xs.map fun p => PySem.Expr.Name p.1 p.2) kk tp] value env = pure none := by rfl)
    (hstar : (assignEach (xs.map fun p => PySem.Expr.Name p.1 p.2) env).findIdx? (·.1) = none := by rfl) (hlen : (assignEach (xs.map fun p => PySem.Expr.Name p.1 p.2) env).length = xs.length := by rfl) :
    Run prog w A env s₀ (FP h₀ L G₀ cells lv cv) (.Assign [.Tuple (xs.map fun p => PySem.Expr.Name p.1 p.2) kk tp] value pos :: rest) Q E := .mk fun h' tk G htk hP hl => by
  refine wpAny_execs_cons (Assign_Tuple (h.run _ G _ _ htk hP hl fun v h₂ tk₂ G₂ htk₂ z dv => ?_) hs hw)
  have hP₂ := FP.frame.stab _ _ _ _ hP z
  obtain ⟨m, F, b⟩ := hP₂.loc
  obtain ⟨a, vs, rfl, ht, r⟩ := isTup_of z.led dv
  refine wpToks (s := { s₀ with heap := h₂, toks := tk₂ }) htk₂ (assign_Tuple_tuple (s := { s₀ with heap := h₂, toks := tk₂ }) hh ht (by rw [hlen, hl', List.size_toArray, r.length]) hstar fun h₃ he₃ => ?_)
  have kp : ∀ b o, h₂.get? b = some o → h₃.get? b = some o := fun b o e => he₃ b o (Nat.ne_of_lt (Heap.lt_size e)) e
  have z₃ := Ext.of_kp (L := L) z.led kp
  have hP₃ := FP.frame.stab _ _ _ _ hP₂ z₃
  refine asg_seq hp xs vs ds { s₀ with heap := h₃, toks := tk₂ } G₂ m _ E hl' hxk nd (by rw [hL]; exact F.ns.at' fun o e => kp _ _ e) r fun h₄ tk₄ m₄ kp₄ n₄ b₄ r₄ htk₄ => ?_
  rw [hL] at kp₄ n₄
  have bb : Binds G₂ m₄ ((xs.map (·.1)).zip ds ++ lv) := fun x d e => by
    rcases List.mem_append.mp e with q | q
    · exact b₄ x d q
    · have hx : x ∉ xs.map (·.1) := by
        have := List.all_eq_true.mp hnw _ q
        intro r
        rw [Bool.not_eq_true', List.contains_eq_mem, decide_eq_false_iff_not] at this
        exact this r
      obtain ⟨v', e1, e2⟩ := b x d q
      exact ⟨v', (r₄ x hx).trans e1, e2⟩
  obtain ⟨y, l₄⟩ := hP₃.chg z₃.led n₄ kp₄ bb
  exact k.run h₄ _ G₂ htk₄ y l₄
/-- if t: .. , t false -/
theorem Run.ifF {t : PySem.Expr} {body : List Stmt} {pos : Pos} {rest : List Stmt} (h : EvT prog w A L env (FP h₀ L G₀ cells lv cv) t false) (k : Run prog w A env s₀ (FP h₀ L G₀ cells lv cv) rest Q E) :
    Run prog w A env s₀ (FP h₀ L G₀ cells lv cv) (.If t body [] pos :: rest) Q E := .mk fun h' tk G htk hP hl => by
  refine wpAny_execs_cons (wpAny_If (h.run _ G _ _ htk hP hl fun h₂ tk₂ G₂ htk₂ z => ?_))
  rw [if_neg (by simp)]
  exact wpAny_execs_nil (k.run h₂ tk₂ G₂ htk₂ (FP.frame.stab _ _ _ _ hP z) z.led)
end
end Mine
end

section
open PySem PySem.W PyProof.Rows PySem.Calls PySem.SeqAt
set_option Elab.async false
set_option maxRecDepth 100000
set_option linter.all false
set_option maxHeartbeats 1000000
set_option pp.deepTerms.threshold 8
set_option pp.deepTerms false
set_option pp.proofs.threshold 2
namespace Mine
def SeqOf (o : Obj) : Prop := ∃ xs n, o.data = .seq xs n
mutual
theorem DatIn.monoS {news news' : List (Addr × Obj)} (hs : ∀ p ∈ news, SeqOf p.2 → p ∈ news') : ∀ {v : Value} {d : Dat}, DatIn news v d → DatIn news' v d
  | _, _, .none => .none
  | _, _, .bool b => .bool b
  | _, _, .int i t => .int i t
  | _, _, .str x t => .str x t
  | _, _, .bytes b t => .bytes b t
  | _, _, .tuple h r => .tuple (hs _ h ⟨_, _, rfl⟩) (DatAll.monoS hs r)
  | _, _, .list h r => .list (hs _ h ⟨_, _, rfl⟩) (DatAll.monoS hs r)
theorem DatAll.monoS {news news' : List (Addr × Obj)} (hs : ∀ p ∈ news, SeqOf p.2 → p ∈ news') : ∀ {vs : List Value} {ds : List Dat}, DatAll news vs ds → DatAll news' vs ds
  | _, _, .nil => .nil
  | _, _, .cons h r => .cons (DatIn.monoS hs h) (DatAll.monoS hs r)
end
section
variable {prog : Program} {w : World} {A : Around} {h₀ : Heap} {L : Addr} {env : Env} {s₀ : Shared} {Q : Flow → Shared → Prop} {E : Value → Shared → Prop} {G₀ : Ldg} {cells : List (Str × Addr)} {lv lvr : List (Str × Dat)} {cv : List (Str × Addr × Dat)}
/-- another ledger, the frame as it stands -/
theorem FP.ledger {G₁ G G' : Ldg} {h : Heap} (y : FP h₀ L G₀ cells lv cv G h) (hs : ∀ p ∈ G, SeqOf p.2 → p ∈ G') (off : ∀ p ∈ G', p.1 ≠ L) (cl : ∀ x c, (x, c) ∈ cells → ∀ p ∈ G', p.1 ≠ c) (new : ∀ p ∈ G', p ∈ G₁ ∨ h₀.get? p.1 = none) (sub : ∀ p ∈ G₁, p ∈ G') : FP h₀ L G₁ cells lv cv G' h := by
  obtain ⟨m, F, b⟩ := y.loc
  refine ⟨⟨m, F, fun x d e => ?_⟩, fun x c e => ?_, y.inj, fun x c d e => ?_, off, new, sub⟩
  · obtain ⟨v, e1, e2⟩ := b x d e
    exact ⟨v, e1, DatIn.monoS hs e2⟩
  · obtain ⟨a1, a2, a3, a4⟩ := y.cls x c e
    exact ⟨a1, a2, cl x c e, a4⟩
  · obtain ⟨hc, v, a4, dv⟩ := y.cel x c d e
    exact ⟨hc, v, a4, DatIn.monoS hs dv⟩
/-- between the turns of a for of the law's frame -/
def FZ (h₀ : Heap) (L : Addr) (G₀ G₁ : Ldg) (cells : List (Str × Addr)) (cv : List (Str × Addr × Dat)) (lvJ : Nat → List (Str × Dat)) (I : Addr) (i : Nat) (o : Obj) (G : Ldg) (h : Heap) : Prop :=
  FP h₀ L G₀ cells (lvJ i) cv G h ∧ Led G h ∧ h.get? I = some o ∧ (∀ p ∈ G, p.1 ≠ I) ∧ ¬ SeqOf o ∧ ∀ p ∈ G₁, p ∈ G
theorem FP.chgI {G : Ldg} {h h' : Heap} {I : Addr} (y : FP h₀ L G₀ cells lv cv G h) (kp : ∀ b o, b ≠ I → h.get? b = some o → h'.get? b = some o) (hIL : I ≠ L) (hI0 : h₀.get? I = none) (hIc : ∀ y a, (y, a) ∈ cells → a ≠ I) : FP h₀ L G₀ cells lv cv G h' :=
  ⟨y.loc.map fun m F b => ⟨⟨F.ns.at' fun o e => kp _ _ (Ne.symm hIL) e, fun b o e => kp _ _ (fun r => by (first | exact noAt r e hI0 | exact noIs r e hI0 | exact (noAt r e hI0).elim | exact (noIs r e hI0).elim | (rw [r, hI0] at e; cases e))) (F.keep b o e), F.above⟩, b⟩, fun x c q => (y.cls x c q).imp_right fun r => r.imp_right fun r => r.imp_right fun r => r.imp fun v r => isCell_keep r fun o e => kp _ _ (hIc _ _ q) e, y.inj,
    fun x c d q => ⟨(y.cel x c d q).1, (y.cel x c d q).2.imp fun v r => ⟨isCell_keep r.1 fun o e => kp _ _ (hIc _ _ (y.cel x c d q).1) e, r.2⟩⟩, y.off, y.new, y.sub⟩
/-- for over data, the target's assignment apart -/
theorem Run.forA {target : PySem.Expr} {pos : Pos} {iter : PySem.Expr} {body rest : List Stmt} {ds : List Dat} {lvJ : Nat → List (Str × Dat)} {lvT : Nat → Dat → List (Str × Dat)} {cvT : Dat → List (Str × Addr × Dat)} (hh : A.handled = none) (hiter : Ev prog w A L env (FP h₀ L G₀ cells lv cv) iter (.list ds)) (hlv : ∀ p ∈ lvJ 0, p ∈ lv)
    (hasg : ∀ (G₁ : Ldg) i d G h tk v (Q : Unit → Shared → Prop) (E : Value → Shared → Prop), ds[i]? = some d → 0 < tk → FP h₀ L G₁ cells (lvJ i) cv G h → Led G h → DatIn G v d → (∀ h' tk', 0 < tk' → FP h₀ L G₁ cells (lvT i d) (cvT d) G h' → Led G h' → Q () { s₀ with heap := h', toks := tk' }) → wpAny (model prog w) A (assign target env v) Q E { s₀ with heap := h, toks := tk })
    (hbody : ∀ (G₁ : Ldg) i d (E' : Value → Shared → Prop), ds[i]? = some d → Run prog w A env s₀ (FP h₀ L G₁ cells (lvT i d) (cvT d)) body (fun f s' => f = .next ∧ ∃ h tk G, s' = { s₀ with heap := h, toks := tk } ∧ 0 < tk ∧ FP h₀ L G₁ cells (lvJ (i + 1)) cv G h ∧ Led G h) E')
    (k : Run prog w A env s₀ (FP h₀ L G₀ cells (lvJ ds.length) cv) rest Q E)
    (hs : ∀ v, foldedSetIterable iter env v = pure v := by intro _; rfl) :
    Run prog w A env s₀ (FP h₀ L G₀ cells lv cv) (.For target iter body [] pos :: rest) Q E := .mk fun h tk G htk hP hl => by
  refine wpAny_execs_cons (data_for (s₀ := s₀) hh htk FP.frame hP hl hiter (fun g h₁ G₁ I oI yg y₁ lg kp eI nsI nI => ?_) hs)
  have hgI : ∀ b o, g.get? b = some o → b ≠ I := fun b o e q => by (first | exact noAt q e nI | exact noIs q e nI | exact (noAt q e nI).elim | exact (noIs q e nI).elim | (rw [q, nI] at e; cases e))
  have hIL : I ≠ L := by
    obtain ⟨m, F, _⟩ := yg.loc
    obtain ⟨o, _, _, e, _⟩ := F.ns
    exact Ne.symm (hgI _ _ e)
  have hI0 : h₀.get? I = none := by
    cases q : h₀.get? I with
    | none => rfl
    | some o =>
      obtain ⟨m, F, _⟩ := yg.loc
      exact absurd rfl (hgI _ _ (F.keep _ _ q))
  have hIc : ∀ y a, (y, a) ∈ cells → a ≠ I := fun y a e => by
    obtain ⟨_, _, _, v, o, eo, _⟩ := yg.cls y a e
    exact hgI _ _ eo
  clear nI hP hl
  refine ⟨FZ h₀ L G₀ G₁ cells cv lvJ I, ⟨y₁.less hlv (fun _ q => q), fun p hp => kp _ _ (lg p hp), eI, fun p hp => hgI _ _ (lg p hp), fun ⟨xs, n, q⟩ => nsI xs n q, fun p q => q⟩, fun i o G' h' z => ⟨z.2.2.1, z.2.1, z.2.2.2.2.2⟩, fun i o G' h' h'' o' z kp' e' ns' => ⟨z.1.chgI kp' hIL hI0 hIc, fun p hp => kp' _ _ (z.2.2.2.1 p hp) (z.2.1 p hp), e', z.2.2.2.1, fun q => q.elim fun xs q => q.elim fun n q => ns' xs n q, z.2.2.2.2.2⟩, ?_,
    fun o G' h' h'' tk' htk' z kp' => k.run h'' tk' G' htk' (z.1.chgI kp' hIL hI0 hIc) fun p hp => kp' _ _ (z.2.2.2.1 p hp) (z.2.1 p hp)⟩
  clear yg y₁ lg kp eI nsI k hiter hgI
  rintro i o G' h' tk' v d Q' E' hd ⟨y, l, e, off, ns, sub⟩ htk' dv hQ
  -- the iterator's object is frozen for the turn
  have y2 : FP h₀ L ((I, o) :: G') cells (lvJ i) cv ((I, o) :: G') h' := y.ledger (fun p hp _ => .tail _ hp) (List.forall_mem_cons.mpr ⟨hIL, y.off⟩) (fun x2 c2 q => List.forall_mem_cons.mpr ⟨Ne.symm (hIc _ _ q), (y.cls x2 c2 q).2.2.1⟩) (fun p hp => .inl hp) (fun p hp => hp)
  have l2 : Led ((I, o) :: G') h' := List.forall_mem_cons.mpr ⟨e, l⟩
  refine hasg ((I, o) :: G') i d _ _ _ _ _ _ hd htk' y2 l2 (dv.mono fun p hp => .tail _ hp) fun h₃ tk₃ htk₃ y3 l3 => ?_
  refine wpAny_mono ((hbody ((I, o) :: G') i d E' hd).run h₃ _ _ htk₃ y3 l3) (fun f s' q => ?_) fun _ _ q => q
  obtain ⟨rfl, h₄, tk₄, G₄, rfl, htk₄, y4, l4⟩ := q
  clear y2 l2 y3 l3 hasg hbody dv
  refine hQ h₄ tk₄ (G₄.filter (fun p => p.1 ≠ I)) htk₄ ?_
  have eI4 : h₄.get? I = some o := l4 _ (y4.sub _ (.head _))
  have nseq : ∀ p ∈ G₄, SeqOf p.2 → p.1 ≠ I := fun p hp hq r => by
    have := l4 p hp
    rw [r, eI4] at this
    cases this
    exact ns hq
  refine ⟨y4.ledger (fun p hp hq => List.mem_filter.mpr ⟨hp, decide_eq_true (nseq p hp hq)⟩) (fun p hp => y4.off p (List.mem_filter.mp hp).1) (fun x2 c2 q p hp => (y4.cls x2 c2 q).2.2.1 p (List.mem_filter.mp hp).1) (fun p hp => ?_) (fun p hp => List.mem_filter.mpr ⟨y4.sub p (.tail _ (y.sub p hp)), decide_eq_true (off p (y.sub p hp))⟩), fun p hp => l4 p (List.mem_filter.mp hp).1, eI4, fun p hp => of_decide_eq_true (List.mem_filter.mp hp).2, ns, fun p hp => List.mem_filter.mpr ⟨y4.sub p (.tail _ (sub p hp)), decide_eq_true (off p (sub p hp))⟩⟩
  refine (y4.new p (List.mem_filter.mp hp).1).elim (fun q => ?_) .inr
  rcases List.mem_cons.mp q with rfl | q
  · exact absurd rfl (of_decide_eq_true (List.mem_filter.mp hp).2)
  · exact y.new p q
/-- for x in data: the target a cell of the frame -/
theorem Run.forCell {x : Str} {c : Addr} {px pos : Pos} {iter : PySem.Expr} {body rest : List Stmt} {ds : List Dat} {lvJ : Nat → List (Str × Dat)} (hh : A.handled = none) (hL : env.locals = L) (hiter : Ev prog w A L env (FP h₀ L G₀ cells lv cv) iter (.list ds)) (hlv : ∀ p ∈ lvJ 0, p ∈ lv) (hc : (x, c) ∈ cells)
    (hbody : ∀ (G₁ : Ldg) i d (E' : Value → Shared → Prop), ds[i]? = some d → Run prog w A env s₀ (FP h₀ L G₁ cells (lvJ i) ((x, c, d) :: cv)) body (fun f s' => f = .next ∧ ∃ h tk G, s' = { s₀ with heap := h, toks := tk } ∧ 0 < tk ∧ FP h₀ L G₁ cells (lvJ (i + 1)) cv G h ∧ Led G h) E')
    (k : Run prog w A env s₀ (FP h₀ L G₀ cells (lvJ ds.length) cv) rest Q E)
    (hx : env.kindOf x = some .cell) (hk : env.scope.kind = .function) (hcl : env.cells.lookup x = some c) (hnw : (cv.all fun p => p.1 != x) = true)
    (hs : ∀ v, foldedSetIterable iter env v = pure v := by intro _; rfl) :
    Run prog w A env s₀ (FP h₀ L G₀ cells lv cv) (.For (.Name x px) iter body [] pos :: rest) Q E := by
  refine Run.forA (lvT := fun i _ => lvJ i) (cvT := fun d => (x, c, d) :: cv) hh hiter hlv (fun G₁ i d G h tk v Q E _ htk y2 l2 dv kk => ?_) hbody k hs
  obtain ⟨c1, c2, c3, u, c4⟩ := y2.cls x c hc
  refine wpToks (s := { s₀ with heap := h, toks := tk }) htk (wpAny_assign_Name (wpAny_storeName_cell hk hx hcl c4 fun h₃ hn hs₃ htk₃ => ?_))
  refine kk _ _ htk₃ ⟨y2.loc.map fun m F b => ⟨F.change hs₃ c1 c2, b⟩, fun x' c' hc' => ?_, y2.inj, fun x' c' d' e => ?_, y2.off, y2.new, y2.sub⟩ fun p hp => hs₃.extBut _ _ (c3 p hp) (l2 p hp)
  · obtain ⟨a1, a2, a3, u', a4⟩ := y2.cls x' c' hc'
    by_cases q : c' = c
    · subst q; exact ⟨a1, a2, a3, _, hn⟩
    · exact ⟨a1, a2, a3, u', isCell_keep a4 fun o e => hs₃.extBut _ _ q e⟩
  · rcases List.mem_cons.mp e with q | q
    · cases q
      exact ⟨hc, v, hn, dv⟩
    · have q' : x' ≠ x := bne_iff_ne.mp (List.all_eq_true.mp hnw _ q)
      obtain ⟨hc', u', a4, du⟩ := y2.cel x' c' d' q
      exact ⟨hc', u', isCell_keep a4 fun o e => hs₃.extBut _ _ (fun r => q' (y2.inj _ _ _ hc' (r ▸ hc))) e, du⟩
end
end Mine
end

section
open PySem PySem.W PyProof.Rows PySem.Calls PySem.SeqAt
set_option Elab.async false
set_option maxRecDepth 100000
set_option linter.all false
set_option maxHeartbeats 1000000
set_option pp.deepTerms.threshold 8
set_option pp.deepTerms false
set_option pp.proofs.threshold 2
namespace Mine
/-- the frame of a comprehension with one cell K of its own, above P -/
def CPK (P : Ldg → Heap → Prop) (L C K : Addr) (lv : List (Str × Dat)) (d : Dat) (G : Ldg) (h : Heap) : Prop := CP P L C lv G h ∧ K ≠ L ∧ K ≠ C ∧ (∀ p ∈ G, p.1 ≠ K) ∧ ∃ v, h.IsCell K (some v) ∧ DatIn G v d
theorem CPK.frame {h₀ : Heap} {L C K : Addr} {P : Ldg → Heap → Prop} {lv : List (Str × Dat)} {d : Dat} (st : FrameOk h₀ L P) : FrameOk h₀ L (CPK P L C K lv d) where
  stab := fun G h G' h' ⟨hP, hKL, hKC, off, v, c, dv⟩ x => by
    refine ⟨(CP.frame st).stab _ _ _ _ hP x, hKL, hKC, fun p hp => ?_, v, isCell_keep c fun o e => x.kp _ _ hKL e, dv.mono x.sub⟩
    rcases x.fresh p hp with q | ⟨q, _⟩
    · exact off p q
    · intro e
      obtain ⟨o, ho, _⟩ := c
      (first | exact noAt e q ho | exact noIs e q ho | exact (noAt e q ho).elim | exact (noIs e q ho).elim | (rw [e, ho] at q; cases q))
  fr := fun G h hP => (CP.frame st).fr _ _ hP.1
  off := fun G h hP => (CP.frame st).off _ _ hP.1
section
variable {M : Model} {A : Around} {E : Value → Shared → Prop} {s : Shared}
theorem newEnv_cell1 {scope : Scope} {globals : Addr} {cl : List (Str × Addr)} {qual : Str} {outer : Env} {a b x y : Str} {Q : Env → Shared → Prop} (hn : scope.names = [(a, .local), (b, .local), (x, .cell), (y, .free)])
    (hQ : Q { scope := scope, locals := s.heap.objs.size, globals := globals, cells := (x, s.heap.objs.size + 1) :: cl, qual := qual, func := none, code := outer.code, frame := outer.frame, builtins := outer.builtins } { s with heap := (s.heap.push { cls := .type "dict", data := .dict #[] }).push { cls := .type "cell", data := .cell none } }) :
    wpAny M A (newFunctionEnv scope globals cl [] qual none .none (some outer)) Q E s := by
  unfold newFunctionEnv
  rw [hn]
  refine wpAny_bind (wpAny_alloc ?_)
  refine wpAny_bind (wpAny_layCells _ (fun name kind cells => by cases hkc : kind == NameKind.cell <;> simp [hkc]) _ _ _ _ ?_)
  dsimp only
  have e1 : cellsFrom (s.heap.push { cls := Value.type (if (some outer).isSome = true then "dict" else "frame"), data := Data.dict #[] }).objs.size [(a, NameKind.local), (b, .local), (x, .cell), (y, .free)] cl = (x, s.heap.objs.size + 1) :: cl := by
    rw [Heap.size_push]; rfl
  rw [e1]
  exact wpAny_bind (wpAny_pure (wpAny_pure hQ))
end
section
variable {prog : Program} {w : World} {A : Around} {h₀ : Heap} {L : Addr} {env : Env} {s₀ : Shared} {Q : Flow → Shared → Prop} {E : Value → Shared → Prop} {G₀ : Ldg} {cells : List (Str × Addr)} {lv lvr : List (Str × Dat)} {cv : List (Str × Addr × Dat)} {KF : Frag} {p : Program} {loose : List Str} {mean : ExcName → Option Value} {mg mb : Str → Option Value}
theorem zip_all (n : Nat) : ∀ b ∈ (n + 5) :: ([n + 6, n + 6 + 1] ++ [n + 4, n + 3, n, n + 1]), n ≤ b :=
  List.forall_mem_cons.mpr ⟨Nat.le_add_right _ _, List.forall_mem_cons.mpr ⟨Nat.le_add_right _ _, List.forall_mem_cons.mpr ⟨Nat.le_add_right n 7, List.forall_mem_cons.mpr ⟨Nat.le_add_right _ _, List.forall_mem_cons.mpr ⟨Nat.le_add_right _ _, List.forall_mem_cons.mpr ⟨Nat.le_refl _, List.forall_mem_cons.mpr ⟨Nat.le_add_right _ _, fun _ e => nomatch e⟩⟩⟩⟩⟩⟩⟩
theorem zip_fp {n l1 l2 : Nat} (h1 : l1 < n) (h2 : l2 < n) : ∀ b ∈ [n + 4, n + 2, n + 3, n, n + 1, l1, l2], b < n + 5 :=
  List.forall_mem_cons.mpr ⟨Nat.add_lt_add_left (by decide) n, List.forall_mem_cons.mpr ⟨Nat.add_lt_add_left (by decide) n, List.forall_mem_cons.mpr ⟨Nat.add_lt_add_left (by decide) n, List.forall_mem_cons.mpr ⟨Nat.lt_add_of_pos_right (by decide), List.forall_mem_cons.mpr ⟨Nat.add_lt_add_left (by decide) n, List.forall_mem_cons.mpr ⟨Nat.lt_of_lt_of_le h1 (Nat.le_add_right _ _), List.forall_mem_cons.mpr ⟨Nat.lt_of_lt_of_le h2 (Nat.le_add_right _ _), fun _ e => nomatch e⟩⟩⟩⟩⟩⟩⟩
theorem zip_L {n l1 l2 L : Nat} (hL : L < n) (h1 : l1 ≠ L) (h2 : l2 ≠ L) : L ∉ [n + 4, n + 2, n + 3, n, n + 1, l1, l2] := fun q =>
  (List.forall_mem_cons.mpr ⟨fun e => Nat.not_le_of_lt hL (e ▸ Nat.le_add_right _ _), List.forall_mem_cons.mpr ⟨fun e => Nat.not_le_of_lt hL (e ▸ Nat.le_add_right _ _), List.forall_mem_cons.mpr ⟨fun e => Nat.not_le_of_lt hL (e ▸ Nat.le_add_right _ _), List.forall_mem_cons.mpr ⟨fun e => Nat.not_le_of_lt hL (e ▸ Nat.le_refl _), List.forall_mem_cons.mpr ⟨fun e => Nat.not_le_of_lt hL (e ▸ Nat.le_add_right _ _), List.forall_mem_cons.mpr ⟨fun e => h1 e.symm, List.forall_mem_cons.mpr ⟨fun e => h2 e.symm, fun _ e => nomatch e⟩⟩⟩⟩⟩⟩⟩ : ∀ b ∈ [n + 4, n + 2, n + 3, n, n + 1, l1, l2], L = b → False) L q rfl
theorem zip_W (n : Nat) : ∀ b ∈ [n + 6, n + 6 + 1], n + 6 ≤ b := List.forall_mem_cons.mpr ⟨Nat.le_refl _, List.forall_mem_cons.mpr ⟨Nat.le_succ _, fun _ e => nomatch e⟩⟩
theorem zip_D (n : Nat) : n + 5 ∉ [n + 6, n + 6 + 1] := fun q => Nat.not_le_of_lt (Nat.lt_succ_self (n + 5)) (zip_W n _ q)
theorem zip_LW {n L : Nat} (h : L < n) : L ∉ [n + 6, n + 6 + 1] := fun q => Nat.not_le_of_lt (Nat.lt_of_lt_of_le h (Nat.le_add_right n 6)) (zip_W n _ q)
/-- y = [e for x1, x2 in zip(a, b)], x2 a cell -/
theorem Run.asgZip {y x1 x2 a1 a2 fr : Str} {py spos p1 p2 q1 q2 tp zp cp pos : Pos} {kk : Nat} {elt : PySem.Expr} {scope : Scope} {cl : List (Str × Addr)} {rest : List Stmt} {ds1 ds2 : List Dat} (f : Nat → Dat)
    (hL : env.locals = L) (hh : A.handled = none) (XK : KF.In h₀) (TT : Top p loose mean mg mb h₀) (hclos : closureFor scope env = pure cl) (hnm : scope.names = [(Str.ofString ".0", .local), (x1, .local), (x2, .cell), (fr, .free)]) (hkind : scope.kind = .function)
    (hx1 : (relabel scope env).names.lookup x1 = some .local) (hx2 : (relabel scope env).names.lookup x2 = some .cell) (h10 : (x1 == Str.ofString ".0") = false)
    (h1 : Ev prog w A L env (FP h₀ L G₀ cells lv cv) (.Name a1 q1) (.list ds1)) (h2 : Ev prog w A L env (FP h₀ L G₀ cells lv cv) (.Name a2 q2) (.list ds2)) (hlen : ds2.length = ds1.length) (hsz : ds1.length ≤ 1000)
    (helt : ∀ C K i d1 d2, ds1[i]? = some d1 → ds2[i]? = some d2 → Ev prog w A L (compEnvC scope ((x2, K) :: cl) C env) (CPK (FP h₀ L G₀ cells lv cv) L C K [(x1, d1)] d2) elt (f i))
    (hsub : ∀ p ∈ lvr, p ∈ lv)
    (k : Run prog w A env s₀ (FP h₀ L G₀ cells ((y, .list ((List.range ds1.length).map f)) :: lvr) cv) rest Q E)
    (hns : nsIn KF mainGlobals (Str.ofString "zip") = some none) (hkd : env.scope.kind = .function) (hr : env.kindOf (Str.ofString "zip") = some .globalImplicit) (hg : env.globals = mainGlobals) (hb : env.builtins = builtinsNs)
    (hsw : swapsWith (.ListComp elt [⟨.Tuple [.Name x1 p1, .Name x2 p2] kk tp, .Call (.Name (Str.ofString "zip") zp) [.Name a1 q1, .Name a2 q2] [] cp, [], 0⟩] scope pos) (some (.Name y py)) spos.line env = pure true := by rfl)
    (hs : ∀ x, foldedSetIterable (.Call (.Name (Str.ofString "zip") zp) [.Name a1 q1, .Name a2 q2] [] cp) env x = pure x := by intro _; rfl) (hx : env.kindOf y = some .local := by kernel_rfl!) (hnw : (lvr.all fun p => p.1 != y) = true := by kernel_rfl!)
    (hp : (env.scope.kind == .class || (env.scope.kind == .module && env.locals != env.globals)) = false := by kernel_rfl!)
    (hcall : eval (.Call (.Name (Str.ofString "zip") zp) [.Name a1 q1, .Name a2 q2] [] cp) env = (do callWith cp (← eval (.Name (Str.ofString "zip") zp) env) [] (backTo cp (starEach [.Name a1 q1, .Name a2 q2] env)) (backToKw cp (keywordEach [] env))) := by rfl)
    (hes : starEach [.Name a1 q1, .Name a2 q2] env = (false, eval (.Name a1 q1) env) :: starEach [.Name a2 q2] env := by rfl) (hes2 : starEach [.Name a2 q2] env = (false, eval (.Name a2 q2) env) :: starEach [] env := by rfl) :
    Run prog w A env s₀ (FP h₀ L G₀ cells lv cv) (.Assign [.Name y py] (.ListComp elt [⟨.Tuple [.Name x1 p1, .Name x2 p2] kk tp, .Call (.Name (Str.ofString "zip") zp) [.Name a1 q1, .Name a2 q2] [] cp, [], 0⟩] scope pos) spos :: rest) Q E := .mk fun h' tk G htk hP hl => by
  subst hL
  refine wpAny_execs_cons ?_
  rw [exec_Assign_Name_used _ _ _ _ hsw]
  refine wpAny_bind (wpAny_standAt (wpAny_bind ?_))
  show wpAny _ A (do let _ ← comprehension (.ListComp elt [⟨.Tuple [.Name x1 p1, .Name x2 p2] kk tp, .Call (.Name (Str.ofString "zip") zp) [.Name a1 q1, .Name a2 q2] [] cp, [], 0⟩] scope pos) scope env _ (newList []) false (eval (.Call (.Name (Str.ofString "zip") zp) [.Name a1 q1, .Name a2 q2] [] cp) env) (some (assign (.Name y py) env))) _ _ _
  refine wpAny_bind (wpAny_mono (wpAny_comprehension_free (use := some (assign (.Name y py) env)) (Q := fun _ s' => wpAny (model prog w) A (execs rest env) Q E s') rfl hs hclos hkind (fun x hx' hl' => ?_) ?_) (fun _ s' hq => wpAny_pure (wpAny_pure hq)) fun _ _ e => e)
  · rw [hnm] at hx' ⊢
    simp only [List.mem_cons, List.not_mem_nil, or_false] at hx'
    rcases hx' with rfl | rfl | rfl | rfl
    · rfl
    · show List.lookup x1 _ = _
      rw [List.lookup_cons, h10]
      simp
    · cases hl'
    · cases hl'
  obtain ⟨mL, F⟩ := FP.frame.fr _ _ hP
  refine Call_ (builtin_name F.keep XK TT hns (v := .type "zip") (by decide +kernel) (by decide +kernel) ?_ hkd hr hg hb (by decide +kernel)) hcall
  refine PyProof.Rows.callWith_type1 ((EvL.cons FP.frame h1 (EvL.cons FP.frame h2 EvL.nil hes2) hes).run cp _ G _ _ htk hP hl fun vs g tk₁ G₁ htk₁ x dvs => ?_) hes (by rfl)
  apply daCons (vs := vs) dvs; intro _ vs_1 dv1 r
  apply daCons (vs := vs_1) r; intro _ vs_2 dv2 r
  apply daNil (vs := vs_2) r
  have hP₁ := FP.frame.stab _ _ _ _ hP x
  obtain ⟨l1, xs, n1, rfl, hm1, hg1, hl1, r1⟩ := isList_of x.led dv1
  obtain ⟨l2, us, n2, rfl, hm2, hg2, hl2, r2⟩ := isList_of x.led dv2
  have lxs : xs.length = ds1.length := r1.length
  have lus : us.length = ds1.length := r2.length.trans hlen
  have hlt1 : l1 < g.objs.size := Heap.lt_size hg1
  have hlt2 : l2 < g.objs.size := Heap.lt_size hg2
  have D : ZipApart (g.objs.size + 4) (g.objs.size + 2) (g.objs.size + 3) g.objs.size (g.objs.size + 1) l1 l2 := ktu_apart _ _ _ hlt1 hlt2
  refine call_zip_2 (s := { s₀ with heap := g, toks := tk₁ }) hl1 hl2 fun gz hz hTI hTO hi1 hi2 hszz hkz => ?_
  refine wpAny_pyIter_zip hz ?_
  refine wpAny_newObj_type (newEnv_cell1 hnm ?_)
  dsimp only at hz hTI hTO hi1 hi2 hszz hkz ⊢
  have hP' := hP₁
  obtain ⟨m0, F0, b0⟩ := hP₁.loc
  have hLlt : env.locals < g.objs.size := F0.ns.lt
  have hH2s : (gz.push { cls := .type "list", dict := none, data := .seq ([] : List Value).toArray }).objs.size = g.objs.size + 6 := by rw [Heap.size_push, hszz]
  have kz : Kp g gz := fun b o e => hkz b o e
  generalize hn0 : g.objs.size = n0 at *
  have eD0 : (gz.push { cls := .type "list", dict := none, data := .seq ([] : List Value).toArray }).get? (n0 + 5) = some (W.listOf (List.toArray []) 0) := by
    have : (gz.push { cls := .type "list", dict := none, data := .seq ([] : List Value).toArray }).get? gz.objs.size = some (W.listOf (List.toArray []) 0) := Heap.get?_push_size _ rfl
    rw [hszz] at this
    exact this
  have kD : Kp gz (gz.push { cls := .type "list", dict := none, data := .seq ([] : List Value).toArray }) := fun b o e => Heap.get?_push_of_some _ e
  rw [hszz, hH2s]
  generalize gz.push { cls := .type "list", dict := none, data := .seq ([] : List Value).toArray } = H2 at *
  have eC0 : (H2.push { cls := .type "dict", data := .dict #[] }).Ns (n0 + 6) (fun _ => none) := by
    have e : (H2.push { cls := .type "dict", data := .dict #[] }).get? H2.objs.size = some { cls := .type "dict", data := .dict #[] } := Heap.get?_push_size _ rfl
    rw [hH2s] at e
    exact ⟨_, #[], 0, e, rfl, (by intro d hd; simp at hd), fun z => by rfl⟩
  have hH3s : (H2.push { cls := .type "dict", data := .dict #[] }).objs.size = n0 + 7 := by rw [Heap.size_push, hH2s]
  have kC : Kp H2 (H2.push { cls := .type "dict", data := .dict #[] }) := fun b o e => Heap.get?_push_of_some _ e
  generalize H2.push { cls := .type "dict", data := .dict #[] } = H3 at *
  have eK0 : (H3.push { cls := .type "cell", data := .cell none }).IsCell (n0 + 6 + 1) none := by
    have e : (H3.push { cls := .type "cell", data := .cell none }).get? H3.objs.size = some { cls := .type "cell", data := .cell none } := Heap.get?_push_size _ rfl
    rw [hH3s] at e
    exact ⟨_, e, rfl⟩
  have kK : Kp H3 (H3.push { cls := .type "cell", data := .cell none }) := fun b o e => Heap.get?_push_of_some _ e
  generalize H3.push { cls := .type "cell", data := .cell none } = h₁ at *
  have nC1 : h₁.Ns (n0 + 6) (fun _ => none) := eC0.at' fun o e => kK _ _ e
  have eD1 : h₁.get? (n0 + 5) = some (W.listOf (List.toArray []) 0) := kK _ _ (kC _ _ eD0)
  have old1 : Kp g h₁ := fun b o e => kK _ _ (kC _ _ (kD _ _ (kz _ _ e)))
  have kz1 : Kp gz h₁ := fun b o e => kK _ _ (kC _ _ (kD _ _ e))
  have x₁ : Ext env.locals G₁ g G₁ h₁ := Ext.of_kp x.led old1
  have gone : ∀ a, n0 ≤ a → g.get? a = none := fun a ha => Heap.get?_none_of_le (by rw [hn0]; exact ha)
  have KT := KTurns.ofWalksU (elts := [.Name x1 p1, .Name x2 p2]) (k := kk) (pos := tp) (WalksT.zip2 (prog := prog) (w := w) hh _ _ _ _ _ _ _ D (List.toArray xs) (List.toArray us)).toU
  have hmin : min (List.toArray xs).size (List.toArray us).size = ds1.length := by rw [List.size_toArray, List.size_toArray, lxs, lus, Nat.min_self]
  rw [hmin] at KT
  have hL5 : env.locals ≠ n0 + 5 := Nat.ne_of_lt (Nat.lt_of_lt_of_le hLlt (Nat.le_add_right _ _))
  have hL6 : env.locals ≠ n0 + 6 := Nat.ne_of_lt (Nat.lt_of_lt_of_le hLlt (Nat.le_add_right _ _))
  have hL7 : env.locals ≠ n0 + 6 + 1 := Nat.ne_of_lt (Nat.lt_of_lt_of_le hLlt (Nat.le_add_right n0 7))
  have hlL1 : l1 ≠ env.locals := hP₁.off _ hm1
  have hlL2 : l2 ≠ env.locals := hP₁.off _ hm2
  have hofG : ∀ p ∈ G₁, p.1 < n0 := fun p hp => by have := Heap.lt_size (x.led p hp); rw [hn0] at this; exact this
  have loop : codeAny (model prog w) A (.compLoop (.ListComp elt [⟨.Tuple [.Name x1 p1, .Name x2 p2] kk tp, .Call (.Name (Str.ofString "zip") zp) [.Name a1 q1, .Name a2 q2] [] cp, [], 0⟩] scope pos) 0 (.ref (n0 + 4)) (.ref (n0 + 5)) (compEnvC scope ((x2, n0 + 6 + 1) :: cl) (n0 + 6) env)) (compPost (model prog w) A E (some (assign (.Name y py) env)) (fun _ s' => wpAny (model prog w) A (execs rest env) Q E s') (.ref (n0 + 5)) (n0 + 6)) { s₀ with heap := h₁, toks := tk₁ } := by
    refine turn_loop (s₁ := s₀) (h₁ := h₁) (g := g) (G₀ := G₁) (G₁ := G₁) (ys₀ := []) (Wl := [n0 + 6, n0 + 6 + 1]) (emit := do let _ ← PySem.call (.builtin "list.append") [.ref (n0 + 5), ← eval elt (compEnvC scope ((x2, n0 + 6 + 1) :: cl) (n0 + 6) env)]) (fun i G2 h => Ext env.locals G₁ g G2 h ∧ CPK (FP h₀ env.locals G₀ cells lv cv) env.locals (n0 + 6) (n0 + 6 + 1) [(x1, ds1.getD i Dat.none)] (ds2.getD i Dat.none) G2 h) (fun i => true) (fun i => [f i]) (fun h => (∃ m, h.Ns (n0 + 6) m) ∧ ∃ v, h.IsCell (n0 + 6 + 1) v) KT (by rfl)
      (fun h h2 q kk2 => ?_) (fun h q b hb => ?_) (fun i h hst b hb => ?_)
      ?_ (Ne.symm hL5) ?_ ?_ ?_ ?_
      x₁ (fun b hb => ?_) ⟨kz1 _ _ hz, kz1 _ _ hTI, ⟨_, _, kz1 _ _ hTO⟩, hi1.at fun o e => kz1 _ _ e, hi2.at fun o e => kz1 _ _ e, hl1.at fun o e => old1 _ _ e, hl2.at fun o e => old1 _ _ e⟩ ⟨⟨_, nC1⟩, ⟨_, eK0⟩⟩ eD1 (fun p hp => ?_) htk₁ ?_ (fun i hi G1 h1 G2 h2 q y => ⟨q.1.trans y, (CPK.frame FP.frame).stab _ _ _ _ q.2 y⟩) ?_ (fun i hi => EvTs.nil) (fun i hi hc => ?_) ?_
    · obtain ⟨⟨m, nn⟩, v, cc⟩ := q
      exact ⟨⟨m, nn.at' fun o e => kk2 _ (.head _) o e⟩, v, isCell_keep cc fun o e => kk2 _ (.tail _ (.head _)) o e⟩
    · obtain ⟨⟨m, nn⟩, v, cc⟩ := q
      simp only [List.mem_cons, List.not_mem_nil, or_false] at hb
      rcases hb with rfl | rfl
      · obtain ⟨o, _, _, e, _⟩ := nn; exact ⟨o, e⟩
      · obtain ⟨o, e, _⟩ := cc; exact ⟨o, e⟩
    · obtain ⟨e1, _, ⟨_, _, e3⟩, ⟨o4, e4, _⟩, ⟨o5, e5, _⟩, _, _⟩ := hst
      simp only [List.mem_cons, List.not_mem_nil, or_false] at hb
      rcases hb with rfl | rfl | rfl | rfl
      · exact ⟨_, e1⟩
      · exact ⟨_, e3⟩
      · exact ⟨_, e4⟩
      · exact ⟨_, e5⟩
    · exact zip_L hLlt hlL1 hlL2
    · exact zip_LW hLlt
    · exact fun b hb q => Nat.not_le_of_lt (zip_fp hlt1 hlt2 b q) (Nat.le_trans (Nat.le_succ _) (zip_W n0 b hb))
    · exact fun q => Nat.lt_irrefl _ (zip_fp hlt1 hlt2 _ q)
    · exact zip_D n0
    · exact gone b (zip_all n0 b hb)
    · exact fun q => Nat.not_le_of_lt (hofG p hp) (zip_all n0 _ q)
    · rw [List.filter_eq_self.mpr (by simp), flat_one, List.length_map, List.length_range, List.length_nil, sizeLine_eq]; omega
    · intro i hi s' G₂ v Q' E' hPv l₂ y₂ off₂ ⟨⟨m2, nn⟩, vk, cc⟩ kk2
      obtain ⟨T, vals, rfl, ⟨u1, u2, hu1, hu2, rfl⟩, hT⟩ := hPv
      have hi2 : i < ds2.length := by rw [hlen]; exact hi
      have hd1 : ds1[i]? = some (ds1.getD i Dat.none) := by rw [List.getD_eq_getElem?_getD, List.getElem?_eq_getElem hi]; rfl
      have hd2 : ds2[i]? = some (ds2.getD i Dat.none) := by rw [List.getD_eq_getElem?_getD, List.getElem?_eq_getElem hi2]; rfl
      obtain ⟨w1, hw1, dw1⟩ := DatAll.get' (r1.mono y₂.sub) hd1
      obtain ⟨w2, hw2, dw2⟩ := DatAll.get' (r2.mono y₂.sub) hd2
      have ew1 : w1 = u1 := by
        have h1 : xs[i]? = some u1 := by simpa using hu1
        rw [hw1] at h1; exact Option.some.inj h1
      have ew2 : w2 = u2 := by
        have h1 : us[i]? = some u2 := by simpa using hu2
        rw [hw2] at h1; exact Option.some.inj h1
      subst ew1 ew2
      have hpc : ((compEnvC scope ((x2, n0 + 6 + 1) :: cl) (n0 + 6) env).scope.kind == .class || ((compEnvC scope ((x2, n0 + 6 + 1) :: cl) (n0 + 6) env).scope.kind == .module && (compEnvC scope ((x2, n0 + 6 + 1) :: cl) (n0 + 6) env).locals != (compEnvC scope ((x2, n0 + 6 + 1) :: cl) (n0 + 6) env).globals)) = false := by simp [compEnvC, relabel, hkind]
      have h67 : (n0 + 6 : Addr) ≠ n0 + 6 + 1 := by show @Ne Nat _ _; omega
      have hCs : (n0 + 6 : Addr) ≠ s'.heap.objs.size := Nat.ne_of_lt nn.lt
      have hKs : (n0 + 6 + 1 : Addr) ≠ s'.heap.objs.size := by
        obtain ⟨o, e, _⟩ := cc
        exact Nat.ne_of_lt (Heap.lt_size e)
      refine wpAny_assign_Tuple hh hT rfl rfl fun h₃ he₃ => ?_
      have up₃ : ∀ b o, s'.heap.get? b = some o → h₃.get? b = some o := fun b o e => he₃ b o (Nat.ne_of_lt (Heap.lt_size e)) e
      show wpAny _ _ (assignInOrder [assign (.Name x1 p1) (compEnvC scope ((x2, n0 + 6 + 1) :: cl) (n0 + 6) env), assign (.Name x2 p2) (compEnvC scope ((x2, n0 + 6 + 1) :: cl) (n0 + 6) env)] [w1, w2]) _ _ _
      refine assignInOrder_cons (wpAny_assign_Name (wpAny_storeName_local (env := compEnvC scope ((x2, n0 + 6 + 1) :: cl) (n0 + 6) env) hx1 (m := m2) (nn.at' fun o e => up₃ _ _ e) (fun h₄ hn₄ hs₄ => ?_) hpc))
      have cc₄ : h₄.IsCell (n0 + 6 + 1) vk := isCell_keep (isCell_keep cc fun o e => up₃ _ _ e) fun o e => hs₄.extBut _ _ (Ne.symm h67) e
      refine assignInOrder_cons (wpAny_assign_Name (wpAny_storeName_cell (env := compEnvC scope ((x2, n0 + 6 + 1) :: cl) (n0 + 6) env) hkind hx2 (c := n0 + 6 + 1) (by show List.lookup x2 ((x2, n0 + 6 + 1) :: cl) = _; simp [List.lookup]) cc₄ fun h₅ hn₅ hs₅ => ?_))
      refine assignInOrder_nil ?_
      have hn₅' : h₅.Ns (n0 + 6) (fun z => if z = x1 then some w1 else m2 z) := hn₄.sameBut hs₅ h67
      refine kk2 h₅ _ (fun b o hb e => hs₅.extBut b o (fun q => hb (by rw [q]; exact .tail _ (.head _))) (hs₄.extBut b o (fun q => hb (by rw [q]; exact .head _)) (up₃ b o e))) ⟨⟨_, hn₅'⟩, _, hn₅⟩ fun y₃ => ⟨y₃, ⟨FP.frame.stab _ _ _ _ hP₁ y₃, Ne.symm hL6, fun p hp q => off₂ p hp (by rw [q]; exact .head _), _, hn₅', fun z d e => ?_⟩, Ne.symm hL7, Ne.symm h67, fun p hp q => off₂ p hp (by rw [q]; exact .tail _ (.head _)), w2, hn₅, dw2⟩
      rw [List.mem_singleton] at e
      cases e
      exact ⟨w1, by simp, dw1⟩
    · have hi2 : i < ds2.length := by rw [hlen]; exact hi
      have hd1 : ds1[i]? = some (ds1.getD i Dat.none) := by rw [List.getD_eq_getElem?_getD, List.getElem?_eq_getElem hi]; rfl
      have hd2 : ds2[i]? = some (ds2.getD i Dat.none) := by rw [List.getD_eq_getElem?_getD, List.getElem?_eq_getElem hi2]; rfl
      refine emW_one (fun h h2 q kk2 => ?_) (fun h q b hb => ?_) (Ne.symm hL5) ?_ ?_ ((helt (n0 + 6) (n0 + 6 + 1) i _ _ hd1 hd2).mono fun _ _ q => q.2)
      · obtain ⟨⟨m, nn⟩, v, cc⟩ := q
        exact ⟨⟨m, nn.at' fun o e => kk2 _ (.head _) o e⟩, v, isCell_keep cc fun o e => kk2 _ (.tail _ (.head _)) o e⟩
      · obtain ⟨⟨m, nn⟩, v, cc⟩ := q
        simp only [List.mem_cons, List.not_mem_nil, or_false] at hb
        rcases hb with rfl | rfl
        · obtain ⟨o, _, _, e, _⟩ := nn; exact ⟨o, e⟩
        · obtain ⟨o, e, _⟩ := cc; exact ⟨o, e⟩
      · exact zip_D n0
      · exact zip_LW hLlt
    · intro h₂ tk₂ G₂ ys n₂ hp₂ x₂ ⟨⟨m₂, hn₂⟩, _⟩ hD₂ dys off₂
      have hflat : (((List.range ds1.length).filter fun _ => true).flatMap fun i => [f i]) = (List.range ds1.length).map f := by rw [List.filter_eq_self.mpr (by simp), flat_one]
      rw [hflat] at dys
      rw [List.nil_append] at hD₂
      show wpAny _ A (assign (.Name y py) env (.ref (n0 + 5))) _ _ _
      have y₂ : Ext env.locals G₁ g G₂ h₂ := ExtW.base x₁ x₂ (fun b hb => gone b (zip_all n0 b hb))
      have y₄ := y₂.more (tl := [(n0 + 5, W.listOf (List.toArray ys) n₂)]) (fun p hp => by rw [List.mem_singleton] at hp; subst hp; exact hD₂) (fun p hp => by rw [List.mem_singleton] at hp; subst hp; exact ⟨gone _ (Nat.le_add_right n0 _), Ne.symm hL5⟩)
      have hP₂ := FP.frame.stab _ _ _ _ hP₁ y₄
      obtain ⟨m, F, b⟩ := hP₂.loc
      refine wpToks (s := { s₀ with heap := h₂, toks := tk₂ }) hp₂ (wpAny_assign_Name (wpAny_storeName_local hx F.ns (fun h₃ hn hs₃ htk₃ => ?_) hp))
      obtain ⟨Y, l₃⟩ := hP₂.chg (lv' := (y, .list ((List.range ds1.length).map f)) :: lvr) y₄.led hn (fun b o hb e => hs₃.extBut b o hb e) (binds_cons (fun z d e => b z d (hsub _ e)) (.list (.head _) (dys.mono fun p hp => .tail _ hp)) hnw)
      refine ⟨m₂, hn₂.sameBut hs₃ (Ne.symm hL6), fun h₄ hs₄ => ?_⟩
      have hC₀ : g.get? (n0 + 6) = none := gone _ (Nat.le_add_right n0 _)
      have offC : ∀ p ∈ [(n0 + 5, W.listOf (List.toArray ys) n₂)] ++ G₂, p.1 ≠ n0 + 6 := fun p hp q => by
        rcases List.mem_append.mp hp with hp | hp
        · rw [List.mem_singleton] at hp
          subst hp
          replace q : @Eq Nat _ _ := q
          omega
        · exact off₂ p hp (by rw [q]; exact .tail _ (.head _))
      have l₄ : Led ([(n0 + 5, W.listOf (List.toArray ys) n₂)] ++ G₂) h₄ := fun p hp => hs₄.extBut _ _ (offC p hp) (l₃ p hp)
      refine k.run h₄ _ _ htk₃ ?_ l₄
      obtain ⟨m', F', b'⟩ := Y.loc
      have hC₃ : h₀.get? (n0 + 6) = none := by
        cases e : h₀.get? (n0 + 6) with
        | none => rfl
        | some o =>
          have e' := F0.keep _ _ e
          (first | exact noBoth hC₀ e' | exact noBoth e' hC₀ | exact (noBoth hC₀ e').elim | exact (noBoth e' hC₀).elim | (rw [hC₀] at e'; cases e'))
      refine ⟨⟨m', F'.change hs₄ (Ne.symm hL6) hC₃, b'⟩, fun x' c' hc' => ?_, Y.inj, fun x' c' d' e => ?_, Y.off, Y.new, Y.sub⟩
      · obtain ⟨a1, a2, a3, u, a4⟩ := Y.cls x' c' hc'
        obtain ⟨_, _, _, u1, b4⟩ := hP₁.cls x' c' hc'
        refine ⟨a1, a2, a3, u, isCell_keep a4 fun o e => hs₄.extBut _ _ (fun q => ?_) e⟩
        obtain ⟨o1, e1, _⟩ := b4
        (first | exact noAt q e1 hC₀ | exact noIs q e1 hC₀ | exact (noAt q e1 hC₀).elim | exact (noIs q e1 hC₀).elim | (rw [q, hC₀] at e1; cases e1))
      · obtain ⟨hc', u, a4, du⟩ := Y.cel x' c' d' e
        refine ⟨hc', u, isCell_keep a4 fun o e => hs₄.extBut _ _ (fun q => ?_) e, du⟩
        obtain ⟨_, _, _, u1, o1, e1, _⟩ := hP₁.cls x' c' hc'
        (first | exact noAt q e1 hC₀ | exact noIs q e1 hC₀ | exact (noAt q e1 hC₀).elim | exact (noIs q e1 hC₀).elim | (rw [q, hC₀] at e1; cases e1))
  exact codeAny_compStart_list loop (wpAny_pyIter_zip (kz1 _ _ hz) loop)
end
end Mine
end

section
open PySem PySem.W PyProof.Rows PySem.Calls PySem.SeqAt PyProof.V PySem.Spec
set_option Elab.async false
set_option maxRecDepth 100000
set_option linter.all false
set_option maxHeartbeats 1000000
namespace Mine
/-- data that equal themselves, bools too -/
def okB : Nat → Dat → Bool
  | _, .none => true
  | _, .bool _ => true
  | _, .int _ => true
  | _, .str x => PyData.strOk x
  | n + 1, .tuple ds => ds.all (okB n)
  | n + 1, .list ds => ds.all (okB n)
  | _, _ => false
section
variable {h₀ h : Heap} {L : Addr} {news : List (Addr × Obj)}
mutual
theorem okB_in (N : News h₀ L h news) : ∀ {v : Value} {d : Dat} (n : Nat), DatIn news v d → okB n d = true → ∃ as, Reads h v (kqdP d) as
  | _, _, _, .none, _ => ⟨_, Reads.none⟩
  | _, _, _, .bool b, _ => ⟨_, Reads.bool b⟩
  | _, _, _, .int i t, _ => ⟨_, Reads.int i t⟩
  | _, _, _, .str x t, _ => ⟨_, Reads.str x t⟩
  | _, _, n, .bytes _ _, hk => by cases n <;> simp [okB] at hk
  | _, _, 0, .tuple _ _, hk => by simp [okB] at hk
  | _, _, 0, .list _ _, hk => by simp [okB] at hk
  | _, _, n + 1, .tuple hm r, hk => by
    obtain ⟨as, q⟩ := okB_all N n r (by simpa [okB] using hk)
    rw [kqdP]
    exact ⟨as, reads_tuple_at (N.get hm) rfl rfl (by simpa using q)⟩
  | _, _, n + 1, .list hm r, hk => by
    obtain ⟨as, q⟩ := okB_all N n r (by simpa [okB] using hk)
    rw [kqdP]
    exact ⟨_, reads_list_at (N.get hm) rfl rfl (by simpa [W.listOf] using q)⟩
theorem okB_all (N : News h₀ L h news) : ∀ {vs : List Value} {ds : List Dat} (n : Nat), DatAll news vs ds → (∀ d ∈ ds, okB n d = true) → ∃ as, ReadsAll h vs (kqdPs ds) as
  | _, _, _, .nil, _ => ⟨_, ReadsAll.nil⟩
  | _, _, n, .cons hd r, hk => by
    obtain ⟨as, q⟩ := okB_in N n hd (hk _ (.head _))
    obtain ⟨bs, p⟩ := okB_all N n r fun d hm => hk d (.tail _ hm)
    rw [kqdPs]
    exact ⟨_, ReadsAll.cons q p⟩
end
end
theorem okB_lay : ∀ (n : Nat) (d : Dat), okB n d = true → (kqdP d).canLay0 = true ∧ (kqdP d).depth ≤ n := by
  have all : ∀ (n : Nat), (∀ d, okB n d = true → (kqdP d).canLay0 = true ∧ (kqdP d).depth ≤ n) → ∀ ds : List Dat, (∀ d ∈ ds, okB n d = true) → PyData.canLayAll0 (kqdPs ds) = true ∧ PyData.depthAll (kqdPs ds) ≤ n := by
    intro n ih ds
    induction ds with
    | nil => intro _; simp [kqdPs, PyData.canLayAll0, PyData.depthAll]
    | cons d ds hi =>
      intro h
      have h1 := ih d (h d (.head _))
      have h2 := hi fun e he => h e (.tail _ he)
      simp only [kqdPs, PyData.canLayAll0, PyData.depthAll, h1.1, h2.1, Bool.and_self, true_and]
      have a1 := h1.2
      have a2 := h2.2
      omega
  intro n
  induction n with
  | zero =>
    intro d h
    cases d <;> simp_all [okB, kqdP, PyData.canLay0, PyData.depth]
  | succ n ih =>
    intro d h
    cases d with
    | none => simp [kqdP, PyData.canLay0, PyData.depth]
    | bool b => simp [kqdP, PyData.canLay0, PyData.depth]
    | int i => simp [kqdP, PyData.canLay0, PyData.depth]
    | str x => simp [okB] at h; simp [kqdP, PyData.canLay0, PyData.depth, h]
    | bytes b => simp [okB] at h
    | tuple ds =>
      have q := all n ih ds (by simpa [okB] using h)
      have q2 := q.2
      simp only [kqdP, PyData.canLay0, PyData.depth, q.1, true_and]
      omega
    | list ds =>
      have q := all n ih ds (by simpa [okB] using h)
      have q2 := q.2
      simp only [kqdP, PyData.canLay0, PyData.depth, q.1, true_and]
      omega
section
variable {prog : Program} {w : World} {A : Around} {L : Addr}
theorem same_lists {s : Shared} {G : Ldg} {v₁ v₂ : Value} {xs : List Dat} (h1 : okB 9 (.list xs) = true) (l : Led G s.heap) (off : ∀ p ∈ G, p.1 ≠ L) (d₁ : DatIn G v₁ (.list xs)) (d₂ : DatIn G v₂ (.list xs)) :
    ∃ as bs, Reads s.heap v₁ (kqdP (.list xs)) as ∧ Reads s.heap v₂ (kqdP (.list xs)) bs ∧ SeqAt.shaped (kqdP (.list xs)) = true ∧ PyData.eqv (kqdP (.list xs)) (kqdP (.list xs)) = true := by
  obtain ⟨as, ra⟩ := okB_in (useN (L := L)) 9 (d₁.mono (sub_objsBut l off)) h1
  obtain ⟨bs, rb⟩ := okB_in (useN (L := L)) 9 (d₂.mono (sub_objsBut l off)) h1
  have la := okB_lay 9 _ h1
  refine ⟨as, bs, ra, rb, ?_, PySem.SeqAt.eqv_refl _ la.1⟩
  unfold SeqAt.shaped
  rw [la.1, Bool.true_and]
  exact decide_eq_true (Nat.le_trans la.2 (by decide))
/-- two lists of the same data -/
theorem eq_same {xs : List Dat} (h1 : okB 9 (.list xs) = true) (hu : A.units + 64 < cLine) : CmpD prog w A L .Eq (.list xs) (.list xs) true := ⟨fun s G m v₁ v₂ Q E _ l n off d₁ d₂ k => (by
  obtain ⟨as, bs, ra, rb, hs, he⟩ := same_lists h1 l off d₁ d₂
  exact eq_dataH ra rb hs hs hu (by rw [he]; exact k _ _ _ (.rfl' l)))⟩
theorem ne_same {xs : List Dat} (h1 : okB 9 (.list xs) = true) (hu : A.units + 64 < cLine) : CmpD prog w A L .NotEq (.list xs) (.list xs) false := ⟨fun s G m v₁ v₂ Q E _ l n off d₁ d₂ k => (by
  obtain ⟨as, bs, ra, rb, hs, he⟩ := same_lists h1 l off d₁ d₂
  exact ne_dataH ra rb hs hs hu (by rw [he]; exact k _ _ _ (.rfl' l)))⟩
end
end Mine
end

section
open PySem PySem.W PyProof.Rows PySem.Calls
set_option Elab.async false
set_option maxRecDepth 100000
set_option linter.all false
set_option pp.deepTerms.threshold 8
set_option pp.deepTerms false
set_option pp.proofs.threshold 2
set_option maxHeartbeats 1000000
namespace Mine
def names6 : List Str := [Str.ofString "a\"b", Str.ofString "\"", Str.ofString "a", Str.ofString "ab\"\"", Str.ofString "b a", Str.ofString "a\" b"]
def nameAt (k : Int) : Str := names6.getD k.toNat (Str.ofString "")
def rowD (sv x : Int) : Dat := .list [.int ((x.fdiv 18).fmod 7), .str (nameAt ((x.fdiv 3).fmod 6)), .int ((x.fdiv 18 + sv * x.fmod 2).fmod 65536), .int (x.fdiv 126)]
def drawn (sv : Int) (ns : List Int) : List Int := ns.filter fun x => x.fmod 3 != 1 - sv
def intOr (c : Int → Bool) : Dat → Bool
  | .int i => c i
  | _ => false
def ofInt (f : Int → Dat) : Dat → Dat
  | .int i => f i
  | d => d
theorem filter_ints (c : Int → Bool) : ∀ ns : List Int, (ns.map Dat.int).filter (intOr c) = (ns.filter c).map Dat.int
  | [] => rfl
  | n :: ns => by
    rw [List.map_cons, List.filter_cons, List.filter_cons, filter_ints c ns]
    show (if c n = true then _ else _) = _
    split <;> rfl
theorem map_ints (f : Int → Dat) (ns : List Int) : (ns.map Dat.int).map (ofInt f) = ns.map f := by rw [List.map_map]; rfl
theorem names6_at (k : Int) (h0 : 0 ≤ k) (h1 : k < 6) : (names6.map Dat.str)[k.toNat]? = some (.str (nameAt k)) := by
  obtain ⟨n, rfl⟩ := Int.eq_ofNat_of_zero_le h0
  have h : n < 6 := Int.ofNat_lt.mp h1
  rcases n with _ | _ | _ | _ | _ | _ | n
  · rfl
  · rfl
  · rfl
  · rfl
  · rfl
  · rfl
  · exact absurd h (Nat.not_lt.mpr (Nat.le_add_left 6 n))
theorem pow16 {prog : Program} {w : World} {A : Around} {L : Addr} : BinD prog w A L .Pow (.int 2) (.int 16) (.int 65536) := pow_iD (by decide) (by decide)
theorem ffiles (ns : List Int) (sv : Int) (hn : ns.length ≤ 1000) (hsv : sv = 0 ∨ sv = 1) : FnD 112 3 [.list (ns.map .int), .int sv] (.list ((drawn sv ns).map (rowD sv))) := by
  constructor
  intro w loose mean mg mb dp un gd cn cs a ccd cl outer A₀ base h₀ L m s G vs Q E B X T hk hd1 hu F htk hl dvs k
  apply daCons (vs := vs) dvs; intro v1 vs_1 d1 r
  apply daCons (vs := vs_1) r; intro v2 vs_2 d2 r
  apply daNil (vs := vs_2) r
  refine wpAny_call ?_
  refine enterC (K := hd.heap_39 w.params) (p := hd.view_39) B F X T rfl rfl hk (by rfl) (by rfl) (show dp < _ from Nat.lt_of_le_of_lt (Nat.le_add_right dp _) hd1) (BindsTo.of_eq rfl) (by rfl) (by decide) (fun L' h₁ tk cells hle F' N' CA B' X' T' => ?_) (by rfl) (by rfl) (by rfl)
  have CA' : CellsAre (fun y => if y = Str.ofString "server" then some v2 else none) [(Str.ofString "names", L' + 1 + 1), (Str.ofString "server", L' + 1)] cells := CA
  obtain ⟨o1, o2, rfl, e1, e2⟩ := CA'.two
  have en := FP.enter (lv := [(Str.ofString "numbers", .list (ns.map .int))]) (nms := [(Str.ofString "names", L' + 1 + 1), (Str.ofString "server", L' + 1)]) (cv := [(Str.ofString "server", L' + 1, .int sv)]) F' hl (fun x d e => ?_) N' (fun x c hx => ?_) (fun x c x' hx hx' => ?_) (fun x c d e => ?_)
  · refine Run.run (s₀ := s) ?_ h₁ tk G (Nat.lt_of_lt_of_le htk hle) en.1 en.2
    clear en CA CA' F' N' d1 d2
    refine Run.asgC (d := .list (names6.map .str)) (c := L' + 1 + 1) (by (repeat' first | exact Ev.cInt | exact Ev.cStr | exact Ev.cNone | exact Ev.cBool | exact Ev.loc (CP.at (by repeat (first | with_reducible exact List.mem_cons_self | with_reducible refine List.mem_cons_of_mem _ ?_))) | exact Ev.loc (FP.at (by repeat (first | with_reducible exact List.mem_cons_self | with_reducible refine List.mem_cons_of_mem _ ?_))) | exact Ev.cap (fun _ _ x => x.1) (by repeat (first | with_reducible exact List.mem_cons_self | with_reducible refine List.mem_cons_of_mem _ ?_)) | exact Ev.cap (fun _ _ x => x) (by repeat (first | with_reducible exact List.mem_cons_self | with_reducible refine List.mem_cons_of_mem _ ?_)) | exact Ev.cap (fun _ _ x => x.1.1) (by repeat (first | with_reducible exact List.mem_cons_self | with_reducible refine List.mem_cons_of_mem _ ?_)) | refine' Ev.bin (by first | exact FP.frame | exact CP.frame FP.frame | exact CP.frame (CP.frame FP.frame)) ?_ ?_ ?_ | exact add_iD | exact sub_iD | exact fdiv_iD (by decide) (by decide) | exact mod_iD (by decide) | exact pow_iD (by decide) (by decide) | refine Ev.list (by first | exact FP.frame | exact CP.frame FP.frame | exact CP.frame (CP.frame FP.frame)) ?_ | exact EvL.nil | refine EvL.cons (by first | exact FP.frame | exact CP.frame FP.frame | exact CP.frame (CP.frame FP.frame)) ?_ ?_)) (.head _) ?_
    refine Run.asgComp (fun d => [(Str.ofString "x", d)]) (intOr fun x => x.fmod 3 != 1 - sv) (ofInt .int) rfl rfl (by rfl) (by decide) (by rfl) (by decide) (by (repeat' first | exact Ev.cInt | exact Ev.cStr | exact Ev.cNone | exact Ev.cBool | exact Ev.loc (CP.at (by repeat (first | with_reducible exact List.mem_cons_self | with_reducible refine List.mem_cons_of_mem _ ?_))) | exact Ev.loc (FP.at (by repeat (first | with_reducible exact List.mem_cons_self | with_reducible refine List.mem_cons_of_mem _ ?_))) | exact Ev.cap (fun _ _ x => x.1) (by repeat (first | with_reducible exact List.mem_cons_self | with_reducible refine List.mem_cons_of_mem _ ?_)) | exact Ev.cap (fun _ _ x => x) (by repeat (first | with_reducible exact List.mem_cons_self | with_reducible refine List.mem_cons_of_mem _ ?_)) | exact Ev.cap (fun _ _ x => x.1.1) (by repeat (first | with_reducible exact List.mem_cons_self | with_reducible refine List.mem_cons_of_mem _ ?_)) | refine' Ev.bin (by first | exact FP.frame | exact CP.frame FP.frame | exact CP.frame (CP.frame FP.frame)) ?_ ?_ ?_ | exact add_iD | exact sub_iD | exact fdiv_iD (by decide) (by decide) | exact mod_iD (by decide) | exact pow_iD (by decide) (by decide) | refine Ev.list (by first | exact FP.frame | exact CP.frame FP.frame | exact CP.frame (CP.frame FP.frame)) ?_ | exact EvL.nil | refine EvL.cons (by first | exact FP.frame | exact CP.frame FP.frame | exact CP.frame (CP.frame FP.frame)) ?_ ?_)) (by rw [filter_ints, map_ints, List.length_map]; exact Nat.le_trans (List.length_filter_le _ _) (Nat.le_trans hn (by decide))) ?_ ?_ ?_ ?_
    · intro C d _
      exact asg_name rfl (by kernel_rfl!) (by kernel_rfl!)
    · intro C d hm
      obtain ⟨x, _, rfl⟩ := List.mem_map.mp hm
      exact EvTs.one (EvT.cmp (by first | exact FP.frame | exact CP.frame FP.frame | exact CP.frame (CP.frame FP.frame)) (Ev.bin (by first | exact FP.frame | exact CP.frame FP.frame | exact CP.frame (CP.frame FP.frame)) (by (repeat' first | exact Ev.cInt | exact Ev.cStr | exact Ev.cNone | exact Ev.cBool | exact Ev.loc (CP.at (by repeat (first | with_reducible exact List.mem_cons_self | with_reducible refine List.mem_cons_of_mem _ ?_))) | exact Ev.loc (FP.at (by repeat (first | with_reducible exact List.mem_cons_self | with_reducible refine List.mem_cons_of_mem _ ?_))) | exact Ev.cap (fun _ _ x => x.1) (by repeat (first | with_reducible exact List.mem_cons_self | with_reducible refine List.mem_cons_of_mem _ ?_)) | exact Ev.cap (fun _ _ x => x) (by repeat (first | with_reducible exact List.mem_cons_self | with_reducible refine List.mem_cons_of_mem _ ?_)) | exact Ev.cap (fun _ _ x => x.1.1) (by repeat (first | with_reducible exact List.mem_cons_self | with_reducible refine List.mem_cons_of_mem _ ?_)) | refine' Ev.bin (by first | exact FP.frame | exact CP.frame FP.frame | exact CP.frame (CP.frame FP.frame)) ?_ ?_ ?_ | exact add_iD | exact sub_iD | exact fdiv_iD (by decide) (by decide) | exact mod_iD (by decide) | exact pow_iD (by decide) (by decide) | refine Ev.list (by first | exact FP.frame | exact CP.frame FP.frame | exact CP.frame (CP.frame FP.frame)) ?_ | exact EvL.nil | refine EvL.cons (by first | exact FP.frame | exact CP.frame FP.frame | exact CP.frame (CP.frame FP.frame)) ?_ ?_)) Ev.cInt (mod_iD (by decide))) (Ev.bin (by first | exact FP.frame | exact CP.frame FP.frame | exact CP.frame (CP.frame FP.frame)) Ev.cInt (by (repeat' first | exact Ev.cInt | exact Ev.cStr | exact Ev.cNone | exact Ev.cBool | exact Ev.loc (CP.at (by repeat (first | with_reducible exact List.mem_cons_self | with_reducible refine List.mem_cons_of_mem _ ?_))) | exact Ev.loc (FP.at (by repeat (first | with_reducible exact List.mem_cons_self | with_reducible refine List.mem_cons_of_mem _ ?_))) | exact Ev.cap (fun _ _ x => x.1) (by repeat (first | with_reducible exact List.mem_cons_self | with_reducible refine List.mem_cons_of_mem _ ?_)) | exact Ev.cap (fun _ _ x => x) (by repeat (first | with_reducible exact List.mem_cons_self | with_reducible refine List.mem_cons_of_mem _ ?_)) | exact Ev.cap (fun _ _ x => x.1.1) (by repeat (first | with_reducible exact List.mem_cons_self | with_reducible refine List.mem_cons_of_mem _ ?_)) | refine' Ev.bin (by first | exact FP.frame | exact CP.frame FP.frame | exact CP.frame (CP.frame FP.frame)) ?_ ?_ ?_ | exact add_iD | exact sub_iD | exact fdiv_iD (by decide) (by decide) | exact mod_iD (by decide) | exact pow_iD (by decide) (by decide) | refine Ev.list (by first | exact FP.frame | exact CP.frame FP.frame | exact CP.frame (CP.frame FP.frame)) ?_ | exact EvL.nil | refine EvL.cons (by first | exact FP.frame | exact CP.frame FP.frame | exact CP.frame (CP.frame FP.frame)) ?_ ?_)) sub_iD) ne_iD)
    · intro C d hm _
      obtain ⟨x, _, rfl⟩ := List.mem_map.mp hm
      show Ev _ _ _ _ _ _ _ (Dat.int x)
      (repeat' first | exact Ev.cInt | exact Ev.cStr | exact Ev.cNone | exact Ev.cBool | exact Ev.loc (CP.at (by repeat (first | with_reducible exact List.mem_cons_self | with_reducible refine List.mem_cons_of_mem _ ?_))) | exact Ev.loc (FP.at (by repeat (first | with_reducible exact List.mem_cons_self | with_reducible refine List.mem_cons_of_mem _ ?_))) | exact Ev.cap (fun _ _ x => x.1) (by repeat (first | with_reducible exact List.mem_cons_self | with_reducible refine List.mem_cons_of_mem _ ?_)) | exact Ev.cap (fun _ _ x => x) (by repeat (first | with_reducible exact List.mem_cons_self | with_reducible refine List.mem_cons_of_mem _ ?_)) | exact Ev.cap (fun _ _ x => x.1.1) (by repeat (first | with_reducible exact List.mem_cons_self | with_reducible refine List.mem_cons_of_mem _ ?_)) | refine' Ev.bin (by first | exact FP.frame | exact CP.frame FP.frame | exact CP.frame (CP.frame FP.frame)) ?_ ?_ ?_ | exact add_iD | exact sub_iD | exact fdiv_iD (by decide) (by decide) | exact mod_iD (by decide) | exact pow_iD (by decide) (by decide) | refine Ev.list (by first | exact FP.frame | exact CP.frame FP.frame | exact CP.frame (CP.frame FP.frame)) ?_ | exact EvL.nil | refine EvL.cons (by first | exact FP.frame | exact CP.frame FP.frame | exact CP.frame (CP.frame FP.frame)) ?_ ?_)
    · rw [filter_ints, map_ints]
      have : (List.map Dat.int (List.filter (fun x => x.fmod 3 != 1 - sv) ns)) = (drawn sv ns).map Dat.int := rfl
      rw [this]
      have hlen : (drawn sv ns).length ≤ 1000 := Nat.le_trans (List.length_filter_le _ _) hn
      refine Run.ret (d := .list ((((drawn sv ns).map Dat.int).filter fun _ => true).map (ofInt (rowD sv)))) FP.frame ?_ ?_
      · refine Ev.comp (h₀ := s.heap) (fun d => [(Str.ofString "x", d)]) (fun _ => true) (ofInt (rowD sv)) FP.frame rfl (by rfl) (by decide) (by rfl) (by decide) (by (repeat' first | exact Ev.cInt | exact Ev.cStr | exact Ev.cNone | exact Ev.cBool | exact Ev.loc (CP.at (by repeat (first | with_reducible exact List.mem_cons_self | with_reducible refine List.mem_cons_of_mem _ ?_))) | exact Ev.loc (FP.at (by repeat (first | with_reducible exact List.mem_cons_self | with_reducible refine List.mem_cons_of_mem _ ?_))) | exact Ev.cap (fun _ _ x => x.1) (by repeat (first | with_reducible exact List.mem_cons_self | with_reducible refine List.mem_cons_of_mem _ ?_)) | exact Ev.cap (fun _ _ x => x) (by repeat (first | with_reducible exact List.mem_cons_self | with_reducible refine List.mem_cons_of_mem _ ?_)) | exact Ev.cap (fun _ _ x => x.1.1) (by repeat (first | with_reducible exact List.mem_cons_self | with_reducible refine List.mem_cons_of_mem _ ?_)) | refine' Ev.bin (by first | exact FP.frame | exact CP.frame FP.frame | exact CP.frame (CP.frame FP.frame)) ?_ ?_ ?_ | exact add_iD | exact sub_iD | exact fdiv_iD (by decide) (by decide) | exact mod_iD (by decide) | exact pow_iD (by decide) (by decide) | refine Ev.list (by first | exact FP.frame | exact CP.frame FP.frame | exact CP.frame (CP.frame FP.frame)) ?_ | exact EvL.nil | refine EvL.cons (by first | exact FP.frame | exact CP.frame FP.frame | exact CP.frame (CP.frame FP.frame)) ?_ ?_)) ?_ ?_ ?_ ?_
        · rw [List.length_map]
          exact Nat.le_trans (List.length_filter_le _ _) (by rw [List.length_map]; exact Nat.le_trans hlen (by decide))
        · intro C d _
          exact asg_name rfl (by kernel_rfl!) (by kernel_rfl!)
        · intro C d _
          exact EvTs.nil
        · intro C d hm _
          obtain ⟨x, _, rfl⟩ := List.mem_map.mp hm
          show Ev _ _ _ _ _ _ _ (rowD sv x)
          refine Ev.list (by first | exact FP.frame | exact CP.frame FP.frame | exact CP.frame (CP.frame FP.frame)) (.cons (by first | exact FP.frame | exact CP.frame FP.frame | exact CP.frame (CP.frame FP.frame)) (by (repeat' first | exact Ev.cInt | exact Ev.cStr | exact Ev.cNone | exact Ev.cBool | exact Ev.loc (CP.at (by repeat (first | with_reducible exact List.mem_cons_self | with_reducible refine List.mem_cons_of_mem _ ?_))) | exact Ev.loc (FP.at (by repeat (first | with_reducible exact List.mem_cons_self | with_reducible refine List.mem_cons_of_mem _ ?_))) | exact Ev.cap (fun _ _ x => x.1) (by repeat (first | with_reducible exact List.mem_cons_self | with_reducible refine List.mem_cons_of_mem _ ?_)) | exact Ev.cap (fun _ _ x => x) (by repeat (first | with_reducible exact List.mem_cons_self | with_reducible refine List.mem_cons_of_mem _ ?_)) | exact Ev.cap (fun _ _ x => x.1.1) (by repeat (first | with_reducible exact List.mem_cons_self | with_reducible refine List.mem_cons_of_mem _ ?_)) | refine' Ev.bin (by first | exact FP.frame | exact CP.frame FP.frame | exact CP.frame (CP.frame FP.frame)) ?_ ?_ ?_ | exact add_iD | exact sub_iD | exact fdiv_iD (by decide) (by decide) | exact mod_iD (by decide) | exact pow_iD (by decide) (by decide) | refine Ev.list (by first | exact FP.frame | exact CP.frame FP.frame | exact CP.frame (CP.frame FP.frame)) ?_ | exact EvL.nil | refine EvL.cons (by first | exact FP.frame | exact CP.frame FP.frame | exact CP.frame (CP.frame FP.frame)) ?_ ?_)) (.cons (by first | exact FP.frame | exact CP.frame FP.frame | exact CP.frame (CP.frame FP.frame)) ?_ (.cons (by first | exact FP.frame | exact CP.frame FP.frame | exact CP.frame (CP.frame FP.frame)) ?_ (.cons (by first | exact FP.frame | exact CP.frame FP.frame | exact CP.frame (CP.frame FP.frame)) (by (repeat' first | exact Ev.cInt | exact Ev.cStr | exact Ev.cNone | exact Ev.cBool | exact Ev.loc (CP.at (by repeat (first | with_reducible exact List.mem_cons_self | with_reducible refine List.mem_cons_of_mem _ ?_))) | exact Ev.loc (FP.at (by repeat (first | with_reducible exact List.mem_cons_self | with_reducible refine List.mem_cons_of_mem _ ?_))) | exact Ev.cap (fun _ _ x => x.1) (by repeat (first | with_reducible exact List.mem_cons_self | with_reducible refine List.mem_cons_of_mem _ ?_)) | exact Ev.cap (fun _ _ x => x) (by repeat (first | with_reducible exact List.mem_cons_self | with_reducible refine List.mem_cons_of_mem _ ?_)) | exact Ev.cap (fun _ _ x => x.1.1) (by repeat (first | with_reducible exact List.mem_cons_self | with_reducible refine List.mem_cons_of_mem _ ?_)) | refine' Ev.bin (by first | exact FP.frame | exact CP.frame FP.frame | exact CP.frame (CP.frame FP.frame)) ?_ ?_ ?_ | exact add_iD | exact sub_iD | exact fdiv_iD (by decide) (by decide) | exact mod_iD (by decide) | exact pow_iD (by decide) (by decide) | refine Ev.list (by first | exact FP.frame | exact CP.frame FP.frame | exact CP.frame (CP.frame FP.frame)) ?_ | exact EvL.nil | refine EvL.cons (by first | exact FP.frame | exact CP.frame FP.frame | exact CP.frame (CP.frame FP.frame)) ?_ ?_)) .nil))))
          · have h6 : 0 ≤ (x.fdiv 3).fmod 6 ∧ (x.fdiv 3).fmod 6 < 6 := by rw [Int.fmod_eq_emod_of_nonneg _ (by decide)]; omega
            exact Ev.item (by first | exact FP.frame | exact CP.frame FP.frame | exact CP.frame (CP.frame FP.frame)) (by (repeat' first | exact Ev.cInt | exact Ev.cStr | exact Ev.cNone | exact Ev.cBool | exact Ev.loc (CP.at (by repeat (first | with_reducible exact List.mem_cons_self | with_reducible refine List.mem_cons_of_mem _ ?_))) | exact Ev.loc (FP.at (by repeat (first | with_reducible exact List.mem_cons_self | with_reducible refine List.mem_cons_of_mem _ ?_))) | exact Ev.cap (fun _ _ x => x.1) (by repeat (first | with_reducible exact List.mem_cons_self | with_reducible refine List.mem_cons_of_mem _ ?_)) | exact Ev.cap (fun _ _ x => x) (by repeat (first | with_reducible exact List.mem_cons_self | with_reducible refine List.mem_cons_of_mem _ ?_)) | exact Ev.cap (fun _ _ x => x.1.1) (by repeat (first | with_reducible exact List.mem_cons_self | with_reducible refine List.mem_cons_of_mem _ ?_)) | refine' Ev.bin (by first | exact FP.frame | exact CP.frame FP.frame | exact CP.frame (CP.frame FP.frame)) ?_ ?_ ?_ | exact add_iD | exact sub_iD | exact fdiv_iD (by decide) (by decide) | exact mod_iD (by decide) | exact pow_iD (by decide) (by decide) | refine Ev.list (by first | exact FP.frame | exact CP.frame FP.frame | exact CP.frame (CP.frame FP.frame)) ?_ | exact EvL.nil | refine EvL.cons (by first | exact FP.frame | exact CP.frame FP.frame | exact CP.frame (CP.frame FP.frame)) ?_ ?_)) (by (repeat' first | exact Ev.cInt | exact Ev.cStr | exact Ev.cNone | exact Ev.cBool | exact Ev.loc (CP.at (by repeat (first | with_reducible exact List.mem_cons_self | with_reducible refine List.mem_cons_of_mem _ ?_))) | exact Ev.loc (FP.at (by repeat (first | with_reducible exact List.mem_cons_self | with_reducible refine List.mem_cons_of_mem _ ?_))) | exact Ev.cap (fun _ _ x => x.1) (by repeat (first | with_reducible exact List.mem_cons_self | with_reducible refine List.mem_cons_of_mem _ ?_)) | exact Ev.cap (fun _ _ x => x) (by repeat (first | with_reducible exact List.mem_cons_self | with_reducible refine List.mem_cons_of_mem _ ?_)) | exact Ev.cap (fun _ _ x => x.1.1) (by repeat (first | with_reducible exact List.mem_cons_self | with_reducible refine List.mem_cons_of_mem _ ?_)) | refine' Ev.bin (by first | exact FP.frame | exact CP.frame FP.frame | exact CP.frame (CP.frame FP.frame)) ?_ ?_ ?_ | exact add_iD | exact sub_iD | exact fdiv_iD (by decide) (by decide) | exact mod_iD (by decide) | exact pow_iD (by decide) (by decide) | refine Ev.list (by first | exact FP.frame | exact CP.frame FP.frame | exact CP.frame (CP.frame FP.frame)) ?_ | exact EvL.nil | refine EvL.cons (by first | exact FP.frame | exact CP.frame FP.frame | exact CP.frame (CP.frame FP.frame)) ?_ ?_)) h6.1 (Int.lt_trans h6.2 (by decide)) (names6_at _ h6.1 h6.2)
          · exact Ev.bin (by first | exact FP.frame | exact CP.frame FP.frame | exact CP.frame (CP.frame FP.frame)) (Ev.bin (by first | exact FP.frame | exact CP.frame FP.frame | exact CP.frame (CP.frame FP.frame)) (by (repeat' first | exact Ev.cInt | exact Ev.cStr | exact Ev.cNone | exact Ev.cBool | exact Ev.loc (CP.at (by repeat (first | with_reducible exact List.mem_cons_self | with_reducible refine List.mem_cons_of_mem _ ?_))) | exact Ev.loc (FP.at (by repeat (first | with_reducible exact List.mem_cons_self | with_reducible refine List.mem_cons_of_mem _ ?_))) | exact Ev.cap (fun _ _ x => x.1) (by repeat (first | with_reducible exact List.mem_cons_self | with_reducible refine List.mem_cons_of_mem _ ?_)) | exact Ev.cap (fun _ _ x => x) (by repeat (first | with_reducible exact List.mem_cons_self | with_reducible refine List.mem_cons_of_mem _ ?_)) | exact Ev.cap (fun _ _ x => x.1.1) (by repeat (first | with_reducible exact List.mem_cons_self | with_reducible refine List.mem_cons_of_mem _ ?_)) | refine' Ev.bin (by first | exact FP.frame | exact CP.frame FP.frame | exact CP.frame (CP.frame FP.frame)) ?_ ?_ ?_ | exact add_iD | exact sub_iD | exact fdiv_iD (by decide) (by decide) | exact mod_iD (by decide) | exact pow_iD (by decide) (by decide) | refine Ev.list (by first | exact FP.frame | exact CP.frame FP.frame | exact CP.frame (CP.frame FP.frame)) ?_ | exact EvL.nil | refine EvL.cons (by first | exact FP.frame | exact CP.frame FP.frame | exact CP.frame (CP.frame FP.frame)) ?_ ?_)) (Ev.bin (by first | exact FP.frame | exact CP.frame FP.frame | exact CP.frame (CP.frame FP.frame)) (by (repeat' first | exact Ev.cInt | exact Ev.cStr | exact Ev.cNone | exact Ev.cBool | exact Ev.loc (CP.at (by repeat (first | with_reducible exact List.mem_cons_self | with_reducible refine List.mem_cons_of_mem _ ?_))) | exact Ev.loc (FP.at (by repeat (first | with_reducible exact List.mem_cons_self | with_reducible refine List.mem_cons_of_mem _ ?_))) | exact Ev.cap (fun _ _ x => x.1) (by repeat (first | with_reducible exact List.mem_cons_self | with_reducible refine List.mem_cons_of_mem _ ?_)) | exact Ev.cap (fun _ _ x => x) (by repeat (first | with_reducible exact List.mem_cons_self | with_reducible refine List.mem_cons_of_mem _ ?_)) | exact Ev.cap (fun _ _ x => x.1.1) (by repeat (first | with_reducible exact List.mem_cons_self | with_reducible refine List.mem_cons_of_mem _ ?_)) | refine' Ev.bin (by first | exact FP.frame | exact CP.frame FP.frame | exact CP.frame (CP.frame FP.frame)) ?_ ?_ ?_ | exact add_iD | exact sub_iD | exact fdiv_iD (by decide) (by decide) | exact mod_iD (by decide) | exact pow_iD (by decide) (by decide) | refine Ev.list (by first | exact FP.frame | exact CP.frame FP.frame | exact CP.frame (CP.frame FP.frame)) ?_ | exact EvL.nil | refine EvL.cons (by first | exact FP.frame | exact CP.frame FP.frame | exact CP.frame (CP.frame FP.frame)) ?_ ?_)) (by (repeat' first | exact Ev.cInt | exact Ev.cStr | exact Ev.cNone | exact Ev.cBool | exact Ev.loc (CP.at (by repeat (first | with_reducible exact List.mem_cons_self | with_reducible refine List.mem_cons_of_mem _ ?_))) | exact Ev.loc (FP.at (by repeat (first | with_reducible exact List.mem_cons_self | with_reducible refine List.mem_cons_of_mem _ ?_))) | exact Ev.cap (fun _ _ x => x.1) (by repeat (first | with_reducible exact List.mem_cons_self | with_reducible refine List.mem_cons_of_mem _ ?_)) | exact Ev.cap (fun _ _ x => x) (by repeat (first | with_reducible exact List.mem_cons_self | with_reducible refine List.mem_cons_of_mem _ ?_)) | exact Ev.cap (fun _ _ x => x.1.1) (by repeat (first | with_reducible exact List.mem_cons_self | with_reducible refine List.mem_cons_of_mem _ ?_)) | refine' Ev.bin (by first | exact FP.frame | exact CP.frame FP.frame | exact CP.frame (CP.frame FP.frame)) ?_ ?_ ?_ | exact add_iD | exact sub_iD | exact fdiv_iD (by decide) (by decide) | exact mod_iD (by decide) | exact pow_iD (by decide) (by decide) | refine Ev.list (by first | exact FP.frame | exact CP.frame FP.frame | exact CP.frame (CP.frame FP.frame)) ?_ | exact EvL.nil | refine EvL.cons (by first | exact FP.frame | exact CP.frame FP.frame | exact CP.frame (CP.frame FP.frame)) ?_ ?_)) (mul_iD (.of_left (PySem.intBits_le_64 (by omega) (by omega))))) add_iD) (Ev.bin (by first | exact FP.frame | exact CP.frame FP.frame | exact CP.frame (CP.frame FP.frame)) (by (repeat' first | exact Ev.cInt | exact Ev.cStr | exact Ev.cNone | exact Ev.cBool | exact Ev.loc (CP.at (by repeat (first | with_reducible exact List.mem_cons_self | with_reducible refine List.mem_cons_of_mem _ ?_))) | exact Ev.loc (FP.at (by repeat (first | with_reducible exact List.mem_cons_self | with_reducible refine List.mem_cons_of_mem _ ?_))) | exact Ev.cap (fun _ _ x => x.1) (by repeat (first | with_reducible exact List.mem_cons_self | with_reducible refine List.mem_cons_of_mem _ ?_)) | exact Ev.cap (fun _ _ x => x) (by repeat (first | with_reducible exact List.mem_cons_self | with_reducible refine List.mem_cons_of_mem _ ?_)) | exact Ev.cap (fun _ _ x => x.1.1) (by repeat (first | with_reducible exact List.mem_cons_self | with_reducible refine List.mem_cons_of_mem _ ?_)) | refine' Ev.bin (by first | exact FP.frame | exact CP.frame FP.frame | exact CP.frame (CP.frame FP.frame)) ?_ ?_ ?_ | exact add_iD | exact sub_iD | exact fdiv_iD (by decide) (by decide) | exact mod_iD (by decide) | exact pow_iD (by decide) (by decide) | refine Ev.list (by first | exact FP.frame | exact CP.frame FP.frame | exact CP.frame (CP.frame FP.frame)) ?_ | exact EvL.nil | refine EvL.cons (by first | exact FP.frame | exact CP.frame FP.frame | exact CP.frame (CP.frame FP.frame)) ?_ ?_)) (by (repeat' first | exact Ev.cInt | exact Ev.cStr | exact Ev.cNone | exact Ev.cBool | exact Ev.loc (CP.at (by repeat (first | with_reducible exact List.mem_cons_self | with_reducible refine List.mem_cons_of_mem _ ?_))) | exact Ev.loc (FP.at (by repeat (first | with_reducible exact List.mem_cons_self | with_reducible refine List.mem_cons_of_mem _ ?_))) | exact Ev.cap (fun _ _ x => x.1) (by repeat (first | with_reducible exact List.mem_cons_self | with_reducible refine List.mem_cons_of_mem _ ?_)) | exact Ev.cap (fun _ _ x => x) (by repeat (first | with_reducible exact List.mem_cons_self | with_reducible refine List.mem_cons_of_mem _ ?_)) | exact Ev.cap (fun _ _ x => x.1.1) (by repeat (first | with_reducible exact List.mem_cons_self | with_reducible refine List.mem_cons_of_mem _ ?_)) | refine' Ev.bin (by first | exact FP.frame | exact CP.frame FP.frame | exact CP.frame (CP.frame FP.frame)) ?_ ?_ ?_ | exact add_iD | exact sub_iD | exact fdiv_iD (by decide) (by decide) | exact mod_iD (by decide) | exact pow_iD (by decide) (by decide) | refine Ev.list (by first | exact FP.frame | exact CP.frame FP.frame | exact CP.frame (CP.frame FP.frame)) ?_ | exact EvL.nil | refine EvL.cons (by first | exact FP.frame | exact CP.frame FP.frame | exact CP.frame (CP.frame FP.frame)) ?_ ?_)) pow16) (mod_iD (by decide))
      · intro v h' tk' G' htk' hP hl' dv
        obtain ⟨m', F'', _⟩ := hP.loc
        refine k v h' tk' G' F''.keep hP.sub hP.new hl' ?_
        rw [List.filter_eq_self.mpr (by simp), map_ints] at dv
        exact dv
  · rw [List.mem_singleton] at e
    cases e
    exact ⟨v1, rfl, d1⟩
  · rcases List.mem_cons.mp hx with q | q
    · cases q; exact ⟨o1, _, .head _, e1⟩
    · rw [List.mem_singleton] at q
      cases q; exact ⟨o2, _, .tail _ (.head _), e2⟩
  · simp only [List.mem_cons, List.not_mem_nil, or_false, Prod.mk.injEq] at hx hx'
    rcases hx with ⟨q1, q2⟩ | ⟨q1, q2⟩ <;> rcases hx' with ⟨r1, r2⟩ | ⟨r1, r2⟩
    · rw [q1, r1]
    · exact absurd (q2.symm.trans r2) (Nat.succ_ne_self _)
    · exact absurd (r2.symm.trans q2) (Nat.succ_ne_self _)
    · rw [q1, r1]
  · rw [List.mem_singleton] at e
    cases e
    exact ⟨.tail _ (.head _), o2, v2, .tail _ (.head _), by rw [e2]; rfl, d2⟩
end Mine
end

section
open PySem PySem.W PyProof.Rows PySem.Calls PySem.SeqAt
set_option Elab.async false
set_option maxRecDepth 100000
set_option linter.all false
set_option maxHeartbeats 1000000
namespace Mine
def fixedNums : List Int := [597384, 73, 303789, 7567, 653951, 598639, 69, 116, 242, 368, 494, 96, 222, 348]
def numsOf (ns : List Int) : List Int := fixedNums ++ ns.take 4
def rowF (sv x : Int) : FRow := ⟨(x.fdiv 18).fmod 7, Mine.nameAt ((x.fdiv 3).fmod 6), (x.fdiv 18 + sv * x.fmod 2).fmod 65536, x.fdiv 126⟩
def rowsOf (ns : List Int) (sv : Int) : List FRow := (Mine.drawn sv (numsOf ns)).map (rowF sv)
theorem fileD_rowF (sv x : Int) : fileD (rowF sv x) = rowD sv x := rfl
theorem files_rows (ns : List Int) (sv : Int) : (rowsOf ns sv).map fileD = (Mine.drawn sv (numsOf ns)).map (rowD sv) := by
  unfold rowsOf
  rw [List.map_map]; rfl
theorem numsOf_len (ns : List Int) : (numsOf ns).length ≤ 18 := by
  unfold numsOf
  rw [List.length_append, List.length_take]
  have : fixedNums.length = 14 := rfl
  omega
theorem rowsOf_len (ns : List Int) (sv : Int) : (rowsOf ns sv).length ≤ 18 := by
  unfold rowsOf Mine.drawn
  rw [List.length_map]
  exact Nat.le_trans (List.length_filter_le _ _) (numsOf_len ns)
/-- what the law expects to be heard of a file -/
def expD (r : FRow) : Dat := if r.kind = 6 then .list [.str (Str.ofString "refused"), .bool true] else .list [.str (Str.ofString "told"), .str (if r.kind = 5 then Str.ofString "" else r.name)]
def sideRow (r : FRow) : Row := (r.name, if 2 < r.kind then Str.ofString "" else sgText r.bits 3)
def sideOf (rows : List FRow) : List Row := (rows.filter fun r => decide (r.kind < 5)).map sideRow
def namesS : List Str := [Str.ofString "\"", Str.ofString "a", Str.ofString "a\" b", Str.ofString "a\"b", Str.ofString "ab\"\"", Str.ofString "b a"]
def signsFor (side : List Row) (n : Str) : List Str := (side.filter fun p => p.1 == n).map (·.2)
def lastS (side : List Row) (n : Str) : Option Str := (signsFor side n).getLast?
def optD : Option Str → Dat
  | none => .none
  | some s => .str s
def ownOf (side : List Row) (i : Nat) : List Row := (namesS.take i).filterMap fun n => (lastS side n).map fun s => (n, s)
def dueOf (s0 s1 : List Row) (i : Nat) : List Dat := (namesS.take i).flatMap fun n => if lastS s0 n = lastS s1 n then [] else [.list [.str n, optD (lastS s0 n), optD (lastS s1 n)]]
/-- the rows of a server's listing, sorted -/
def listS (ns : List Int) (sv : Int) : List Row := ownOf (sideOf (rowsOf ns sv)) 6
def tri (rs : List Row) : List Row := rs.flatMap fun r => [r, r, r]
/-- what the plain law has to show -/
structure LawOk (ns : List Int) : Prop where
  nm : ∀ sv, ∀ r ∈ rowsOf ns sv, r.name.length ≤ 8 ∧ (Txt.replace r.name (Str.ofString "\"") (Str.ofString "\"\"")).length ≤ 100
  heard : ∀ sv, sv = 0 ∨ sv = 1 → (rowsOf ns sv).map heardD = (rowsOf ns sv).map expD
  sort : ∀ sv, sv = 0 ∨ sv = 1 → SortsTo (listP (rowsOf ns sv)) (listS ns sv)
  sort3 : ∀ sv, sv = 0 ∨ sv = 1 → SortsTo (List.replicate 3 (listS ns sv)).flatten (tri (listS ns sv))
  rep : reportP (sldP (listS ns 0) (listS ns 1)).1 (sldP (listS ns 0) (listS ns 1)).2 = dueOf (sideOf (rowsOf ns 0)) (sideOf (rowsOf ns 1)) 6
  thr : sldP (tri (listS ns 0)) (tri (listS ns 1)) = (thriceP (listS ns 0) (listS ns 1), thriceP (listS ns 1) (listS ns 0))
  ok : ∀ sv, sv = 0 ∨ sv = 1 → ∀ r ∈ listS ns sv, rowOk r = true
  sld1 : ∀ r ∈ (sldP (listS ns 0) (listS ns 1)).1, rowOk r = true
  sld2 : ∀ r ∈ (sldP (listS ns 0) (listS ns 1)).2, rowOk r = true
  sldl : (sldP (listS ns 0) (listS ns 1)).1.length ≤ 100 ∧ (sldP (listS ns 0) (listS ns 1)).2.length ≤ 100
  hok : ∀ sv, sv = 0 ∨ sv = 1 → okB 8 (.list ((rowsOf ns sv).map expD)) = true
  due : okB 8 (.list (dueOf (sideOf (rowsOf ns 0)) (sideOf (rowsOf ns 1)) 6)) = true
theorem ownOf_len (side : List Row) (i : Nat) : (ownOf side i).length ≤ 6 := by
  unfold ownOf
  refine Nat.le_trans (List.length_filterMap_le _ _) ?_
  rw [List.length_take]
  exact Nat.min_le_right _ _
theorem listS_len (ns : List Int) (sv : Int) : (listS ns sv).length ≤ 6 := ownOf_len _ _
end Mine
end

section
open PySem PySem.W PyProof.Rows PySem.Calls PySem.SeqAt
set_option Elab.async false
set_option maxRecDepth 100000
set_option linter.all false
set_option maxHeartbeats 1000000
namespace Mine
/-- as Ev, the tokens not known to be given ahead -/
structure Ev0 (prog : Program) (w : World) (A : Around) (L : Addr) (env : Env) (P : Ldg → Heap → Prop) (e : PySem.Expr) (d : Dat) : Prop where
  run : ∀ (s : Shared) (G : Ldg) (Q E : Value → Shared → Prop), P G s.heap → Led G s.heap →
    (∀ v h' tk G', 0 < tk → Ext L G s.heap G' h' → DatIn G' v d → Q v { s with heap := h', toks := tk }) → wpAny (model prog w) A (eval e env) Q E s
structure EvL0 (prog : Program) (w : World) (A : Around) (L : Addr) (env : Env) (P : Ldg → Heap → Prop) (es : List PySem.Expr) (ds : List Dat) : Prop where
  run : ∀ (pos : Pos) (s : Shared) (G : Ldg) (Q : List Value → Shared → Prop) (E : Value → Shared → Prop), P G s.heap → Led G s.heap →
    (∀ vs h' tk G', 0 < tk → Ext L G s.heap G' h' → DatAll G' vs ds → Q vs { s with heap := h', toks := tk }) → wpAny (model prog w) A (spliced (backTo pos (starEach es env))) Q E s
structure Run0 (prog : Program) (w : World) (A : Around) (env : Env) (s₀ : Shared) (P : Ldg → Heap → Prop) (ss : List Stmt) (Q : Flow → Shared → Prop) (E : Value → Shared → Prop) : Prop where
  run : ∀ h tk G, P G h → Led G h → wpAny (model prog w) A (execs ss env) Q E { s₀ with heap := h, toks := tk }
section
variable {prog : Program} {w : World} {A : Around} {h₀ : Heap} {L : Addr} {env : Env} {P : Ldg → Heap → Prop} {s₀ : Shared} {Q : Flow → Shared → Prop} {E : Value → Shared → Prop}
theorem Ev0.cInt {i k pos} : Ev0 prog w A L env P (.Constant (.int i) k pos) (.int i) := ⟨fun s _ _ _ _ hl q => wpAny_Constant_int (q _ s.heap _ _ (Nat.succ_pos _) (.rfl' hl) (.int i _))⟩
theorem EvL0.cons (st : FrameOk h₀ L P) {e : PySem.Expr} {es : List PySem.Expr} {d : Dat} {ds : List Dat} (h : Ev0 prog w A L env P e d) (r : EvL prog w A L env P es ds)
    (he : starEach (e :: es) env = (false, eval e env) :: starEach es env := by rfl) : EvL0 prog w A L env P (e :: es) (d :: ds) := ⟨fun pos s G Q E hP hl k =>
  wpAny_items_cons (h.run s G _ _ hP hl fun v h' tk G' hp' x dv => r.run pos _ G' _ _ hp' (st.stab _ _ _ _ hP x) x.led fun vs h'' tk' G'' hp'' y dvs =>
    k (v :: vs) h'' tk' G'' hp'' (x.trans y) (.cons (dv.mono y.sub) dvs)) he⟩
theorem Ev0.list (st : FrameOk h₀ L P) {es : List PySem.Expr} {ds : List Dat} {pos : Pos} (h : EvL0 prog w A L env P es ds) (hsz : ds.length ≤ sizeLine) : Ev0 prog w A L env P (.List es pos) (.list ds) :=
  ⟨fun s G Q E hP hl k => wpAny_List (h.run pos s G _ E hP hl fun vs h' tk G' hp' x dvs => ⟨by rw [dvs.length]; exact hsz, by
    refine k _ _ _ _ hp' (x.trans (push_ext (s := { s with heap := h', toks := tk }) st (st.stab _ _ _ _ hP x) x.led (W.listOf vs.toArray 0) (fun _ _ _ e => by cases e))) ?_
    exact .list (n := 0) (.head _) (dvs.mono fun p q => .tail _ q)⟩)⟩
theorem Ev0.bin (st : FrameOk h₀ L P) {l r : PySem.Expr} {op : Operator} {pos : Pos} {d₁ d₂ d : Dat} (h₁ : Ev0 prog w A L env P l d₁) (h₂ : Ev prog w A L env P r d₂) (b : BinD prog w A L op d₁ d₂ d) : Ev0 prog w A L env P (.BinOp l op r pos) d :=
  ⟨fun s G Q E hP hl k => wpAny_BinOp (h₁.run s G _ _ hP hl fun v h' tk G' hp' x dv => by
    refine h₂.run _ G' _ _ hp' (st.stab _ _ _ _ hP x) x.led fun v₂ h'' tk' G'' hp'' y dv₂ => ?_
    have hP'' := st.stab _ _ _ _ (st.stab _ _ _ _ hP x) y
    obtain ⟨m, n⟩ := st.ns _ _ hP''
    exact wpToks (s := { s with heap := h'', toks := tk' }) hp'' (b.run _ G'' m v v₂ _ _ hp'' y.led n (st.off _ _ hP'') (dv.mono y.sub) dv₂ fun v₃ h₃ tk₃ G₃ z d₃ hp₃ => k v₃ h₃ tk₃ G₃ hp₃ ((x.trans y).trans z) d₃))⟩
theorem Run0.asgC {G₀ : Ldg} {cells : List (Str × Addr)} {lv : List (Str × Dat)} {cv : List (Str × Addr × Dat)} {x : Str} {pos' pos : Pos} {value : PySem.Expr} {rest : List Stmt} {d : Dat} {c : Addr} (st : FrameOk h₀ L P) (hPF : ∀ G h, P G h → FP h₀ L G₀ cells lv cv G h) (h : Ev0 prog w A L env P value d) (hc : (x, c) ∈ cells)
    (k : Run prog w A env s₀ (FP h₀ L G₀ cells lv ((x, c, d) :: cv)) rest Q E) (hs : swapsWith value (some (.Name x pos')) pos.line env = pure false := by rfl) (hx : env.kindOf x = some .cell := by kernel_rfl!) (hk : env.scope.kind = .function := by kernel_rfl!) (hnw : (cv.all fun p => p.1 != x) = true := by kernel_rfl!)
    (hcl : env.cells.lookup x = some c := by kernel_rfl!) :
    Run0 prog w A env s₀ P (.Assign [.Name x pos'] value pos :: rest) Q E := .mk fun h' tk G hP hl => by
  refine wpAny_execs_cons (wpAny_Assign_Name (h.run _ G _ _ hP hl fun v h₂ tk₂ G₂ htk₂ z dv => ?_) hs)
  have hP₂ := hPF _ _ (st.stab _ _ _ _ hP z)
  obtain ⟨c1, c2, c3, u, c4⟩ := hP₂.cls x c hc
  refine wpToks (s := { s₀ with heap := h₂, toks := tk₂ }) htk₂ (wpAny_storeName_cell hk hx hcl c4 fun h₃ hn hs₃ htk₃ => ?_)
  obtain ⟨m, F, b⟩ := hP₂.loc
  refine k.run h₃ _ G₂ htk₃ ⟨⟨m, F.change hs₃ c1 c2, b⟩, fun x' c' hc' => ?_, hP₂.inj, fun x' c' d' e => ?_, hP₂.off, hP₂.new, hP₂.sub⟩ fun p hp => hs₃.extBut _ _ (c3 p hp) (z.led p hp)
  · obtain ⟨a1, a2, a3, u', a4⟩ := hP₂.cls x' c' hc'
    by_cases q : c' = c
    · subst q; exact ⟨a1, a2, a3, _, hn⟩
    · exact ⟨a1, a2, a3, u', isCell_keep a4 fun o e => hs₃.extBut _ _ q e⟩
  · rcases List.mem_cons.mp e with q | q
    · cases q
      exact ⟨hc, v, hn, dv⟩
    · have q' : x' ≠ x := by simpa using List.all_eq_true.mp hnw _ q
      obtain ⟨hc', u', a4, du⟩ := hP₂.cel x' c' d' q
      exact ⟨hc', u', isCell_keep a4 fun o e => hs₃.extBut _ _ (fun r => q' (hP₂.inj _ _ _ hc' (r ▸ hc))) e, du⟩
/-- the law's frame, the script by its name -/
def FPS (h₀ : Heap) (L : Addr) (G₀ : Ldg) (cells : List (Str × Addr)) (sc : Str) (l : Addr) (G : Ldg) (h : Heap) : Prop := FP h₀ L G₀ cells [] [] G h ∧ ∃ m, h.Ns L m ∧ m sc = some (.ref l)
theorem FPS.frame {G₀ : Ldg} {cells : List (Str × Addr)} {sc : Str} {l : Addr} : FrameOk h₀ L (FPS h₀ L G₀ cells sc l) where
  stab := fun G h G' h' ⟨y, m, n, e⟩ x => ⟨FP.frame.stab _ _ _ _ y x, m, x.ns m n, e⟩
  fr := fun G h y => FP.frame.fr _ _ y.1
  off := fun G h y => FP.frame.off _ _ y.1
theorem ints_dat {G : Ldg} {vs : List Value} {ns : List Int} (h : IntsAre vs ns) : DatAll G vs (ns.map .int) := by
  induction h with
  | nil => exact .nil
  | cons _ _ _ ih => exact .cons (.int _ _) ih
/-- script[:4] -/
theorem Ev.sliceRaw {G₀ : Ldg} {cells : List (Str × Addr)} {sc : Str} {l : Addr} {vs : List Value} {ns : List Int} {p1 p2 cp pos : Pos} {ck : Nat} (hL : env.locals = L) (hIs : h₀.IsList l (List.toArray vs)) (hI : IntsAre vs ns) (hsz : vs.length ≤ sizeLine)
    (hk : env.scope.kind = .function) (hx : env.kindOf sc = some .local) (hd : (sc == ("__debug__" : Str)) = false)
    (hs : ∀ l sl, subscripted (.Slice none (some (.Constant (.int 4) ck cp)) none p2) false (.ref l) (.ref sl) = operate [.ref sl, .ref l] (getItem (.ref l) (.ref sl)) := by intro _ _; with_unfolding_all rfl) :
    Ev prog w A L env (FPS h₀ L G₀ cells sc l) (.Subscript (.Name sc p1) (.Slice none (some (.Constant (.int 4) ck cp)) none p2) pos) (.list ((ns.take 4).map .int)) :=
  Ev.of fun s G Q E hp hP hl q => by
    obtain ⟨y, m, n, e⟩ := hP
    refine Subscript_ (wpAny_Name (wpAny_loadName_local hk hx (by rw [hL]; exact n) e ?_) hd)
    refine wpAny_Slice (wpAny_pure ?_)
    refine wpAny_Constant_int (k := ck) (pos := cp) (wpAny_pure ?_)
    obtain ⟨m0, F, _⟩ := y.loc
    have hls : s.heap.IsList l (List.toArray vs) := hIs.at fun o e => F.keep _ _ e
    have hl4 : (s.heap.push { cls := .type "slice", data := .fields #[.none, .int 4 s.toks, Value.none] }).IsList l (List.toArray vs) := hls.push _
    have hP : FPS h₀ L G₀ cells sc l G s.heap := ⟨y, m, n, e⟩
    have e1 := push_ext (s := s) FPS.frame hP hl { cls := .type "slice", data := .fields #[.none, .int 4 s.toks, Value.none] } (fun _ _ _ e => by cases e)
    have hP4 := FPS.frame.stab _ _ _ _ hP e1
    refine tail_any (ops := [.ref s.heap.objs.size, .ref l]) (T := "list") (s := { s with heap := s.heap.push { cls := .type "slice", data := .fields #[.none, .int 4 s.toks, Value.none] }, toks := s.toks + 1 }) hl4.typeIs slot_list_getitem.lookup
      (wpAny_getItem_list_slice (s := { s with heap := s.heap.push { cls := .type "slice", data := .fields #[.none, .int 4 s.toks, Value.none] }, toks := s.toks + 1 }) (lo := none) (hi := some 4) hl4 (Heap.IsSliceOf.new ..) .none (.int _ _) .none (by simp) ?_ (by rw [List.size_toArray]; exact hsz)) (hs _ _)
    have e2 := push_ext (s := { s with heap := s.heap.push { cls := .type "slice", data := .fields #[.none, .int 4 s.toks, Value.none] }, toks := s.toks + 1 }) FPS.frame hP4 e1.led (W.listOf (slicePick (List.toArray vs) none (some 4) Option.none) 0) (fun _ _ _ e => by cases e)
    refine q _ _ _ _ (e1.trans e2) ?_
    have hpick := pick_upto (ds := ns.map Dat.int) 4 G vs (ints_dat hI)
    rw [← List.map_take] at hpick
    refine .list (n := 0) (vs := (slicePick (List.toArray vs) none (some 4) Option.none).toList) ?_ (hpick.mono fun p hp => .tail _ (.tail _ hp))
    show (_, W.listOf (slicePick (List.toArray vs) none (some 4) Option.none).toList.toArray 0) ∈ _
    rw [Array.toArray_toList]
    exact .head _
end
end Mine
end

section
open PySem PySem.W PyProof.Rows PySem.Calls PyProof.V PySem.Spec
set_option Elab.async false
set_option maxRecDepth 100000
set_option linter.all false
set_option maxHeartbeats 1000000
namespace Mine
/-- a display's pairs of written ints and texts -/
inductive KVs : List (Option PySem.Expr) → List PySem.Expr → List (Int × Str) → Prop
  | nil : KVs [] [] []
  | cons {k : Int} {x : Str} {c c' : Nat} {q q' : Pos} {ks : List (Option PySem.Expr)} {es : List PySem.Expr} {ps : List (Int × Str)} : KVs ks es ps → KVs (some (.Constant (.int k) c q) :: ks) (.Constant (.str x) c' q' :: es) ((k, x) :: ps)
def encP (ps : List (Int × Str)) : List (PyData × PyData) := ps.map fun p => (.int p.1, .str p.2)
section
variable {prog : Program} {w : World} {A : Around} {env : Env}
theorem KVs.pairs {ks : List (Option PySem.Expr)} {es : List PySem.Expr} {ps : List (Int × Str)} (pos : Pos) (h : KVs ks es ps) : ∃ prs : List (Sem Value × Sem Value), (evalEachOpt ks env).zip ((evalEach es env).map fun v => do let x ← v; standAt pos; pure x) = prs.map (fun p => (some p.1, p.2)) ∧ prs.length = ps.length ∧
    ∀ (s : Shared) (Q : List (Value × Value) → Shared → Prop) (E : Value → Shared → Prop), (∀ vs kvs tk, Carries (intKind prog w) vs kvs → kvs.map (·.1) = ps.map (·.1) → FlatPairs PyData.int kvs (encP ps) → Q vs { s with toks := tk }) → wpAny (model prog w) A (evalPairs prs) Q E s := by
  induction h with
  | nil => exact ⟨[], rfl, rfl, fun s Q E hq => evalPairs_nil (hq [] [] s.toks trivial rfl .nil)⟩
  | @cons k x c c' q q' ks es ps _ ih =>
    obtain ⟨prs, e1, e2, e3⟩ := ih
    refine ⟨(eval (.Constant (.int k) c q) env, do let x ← eval (.Constant (.str x) c' q') env; standAt pos; pure x) :: prs, ?_, congrArg (· + 1) e2, fun s Q E hq => ?_⟩
    · rw [List.map_cons, ← e1]; rfl
    · refine evalPairs_cons (wpAny_Constant_int ?_)
      refine wpAny_bind (wpAny_Constant_str (wpAny_bind (wpAny_standAt (wpAny_pure ?_))))
      exact e3 _ _ _ fun vs kvs tk h1 h2 h3 => hq _ ((k, _) :: kvs) tk ⟨by simp [intKind, Value.isInt], rfl, h1⟩ (congrArg (k :: ·) h2) (.cons (Flat.str _ _) h3)
end
end Mine
end

section
open PySem PySem.W PyProof.Rows PySem.Calls PyProof.V PySem.Spec
set_option Elab.async false
set_option maxRecDepth 100000
set_option linter.all false
set_option maxHeartbeats 1000000
namespace Mine
section
variable {prog : Program} {w : World} {A : Around} {h₀ : Heap} {L : Addr} {env : Env} {P : Ldg → Heap → Prop}
theorem meth_eqD {ks : List (Option PySem.Expr)} {es : List PySem.Expr} {dp : Pos} {meth : Str} {ap pos : Pos} {a1 a2 : PySem.Expr} (hp : (ap.endLine == pos.line) = true) (hst : starEach [a1, a2] env = [(false, eval a1 env), (false, eval a2 env)] := by rfl) : eval (.Call (.Attribute (.Dict ks es dp) meth ap) [a1, a2] [] pos) env = (do
      let ov ← eval (.Dict ks es dp) env
      standAt ap.atName
      let (f, first) ← holding [ov] (getMethod ov meth (do return (← importBound (.Dict ks es dp) env).getD true))
      callWith pos f first (backTo pos (starEach [a1, a2] env)) []) := by
  show (do
    let ov ← eval (.Dict ks es dp) env
    standAt ap.atName
    methodCall (.Dict ks es dp) meth ap pos env ov 2 (backTo pos (starEach [a1, a2] env)) []) = _
  unfold methodCall
  rw [hst]
  have e1 : methodCallForm 2 (backTo pos [(false, eval a1 env), (false, eval a2 env)]) [] = true := rfl
  rw [e1]
  have e2 : methodCallPos true (.Dict ks es dp) env ap pos = pure pos := by
    unfold methodCallPos
    rw [hp]; rfl
  rw [e2]
  rfl
theorem look_enc (i : Int) (x : Str) : ∀ ps : List (Int × Str), (PySem.Spec.lookup (.int i) (encP ps)).getD (.str x) = .str ((ps.lookup i).getD x)
  | [] => rfl
  | (k, y) :: ps => by
    show (if PySem.Spec.same (.int k) (.int i) then some (PyData.str y) else PySem.Spec.lookup (.int i) (encP ps)).getD (.str x) = _
    have e : PySem.Spec.same (.int k) (.int i) = (i == k) := by
      show (k == i) = (i == k)
      exact Bool.beq_comm
    rw [e, List.lookup_cons]
    cases i == k
    · exact look_enc i x ps
    · rfl
/-- {10: 'l', ..}.get(i, x) -/
theorem Ev.dictGet (st : FrameOk h₀ L P) {ks : List (Option PySem.Expr)} {es : List PySem.Expr} {ps : List (Int × Str)} {e : PySem.Expr} {x : Str} {i : Int} {c : Nat} {q dpos ap cp : Pos} (hkv : KVs ks es ps) (h : Ev prog w A L env P e (.int i)) (h0 : ps ≠ []) (hlen : ps.length ≤ 15) (hnd : (ps.map (·.1)).Nodup) (hpos : (ap.endLine == cp.line) = true)
    (hes : starEach [e, .Constant (.str x) c q] env = [(false, eval e env), (false, eval (.Constant (.str x) c q) env)] := by rfl) (hlo : ∃ b o, h₀.get? b = some o ∧ sysModules ≤ b) :
    Ev prog w A L env P (.Call (.Attribute (.Dict ks es dpos) (Str.ofString "get") ap) [e, .Constant (.str x) c q] [] cp) (.str ((ps.lookup i).getD x)) := Ev.of fun s G Q E hp hP hl k => by
  refine MethodCall_ (wpToks hp ?_) (meth_eqD hpos hes)
  obtain ⟨prs, e1, e2, e3⟩ := hkv.pairs (prog := prog) (w := w) (A := A) (env := env) dpos
  have hne : prs ≠ [] := fun q => h0 (List.eq_nil_of_length_eq_zero (by rw [← e2, q]; rfl))
  have hD0 : s.heap.get? s.heap.objs.size = none := Heap.get?_none_of_le (Nat.le_refl _)
  obtain ⟨b, o, hb, hle⟩ := hlo
  obtain ⟨m, F⟩ := st.fr _ _ hP
  have hlt : sysModules < s.heap.objs.size := Nat.lt_of_le_of_lt hle (Heap.lt_size (F.keep _ _ hb))
  have hlo' : (s.heap.objs.size == sysModules) = false := by simpa using Nat.ne_of_gt hlt
  refine wpAny_Dict_pairs (knd := intKind prog w) (pairs := prs) e1 hne (by rw [e2]; exact hlen) ?_
  refine e3 _ _ _ fun vs kvs tk hc hk hf => ⟨kvs, hc, Heap.DictOf.new _, fun h' hd hs => ?_⟩
  rw [merged_nil_of_nodup kvs (by rw [hk]; exact hnd)] at hd
  have T : IntTab prog w h' s.heap.objs.size (encP ps) := ⟨hlo', kvs, hd, hf⟩
  intro hp'
  have xx : Ext L G s.heap G h' := Ext.of_kp hl fun b o e => hs.extBut b o (fun q => by (first | exact noAt q e hD0 | exact noIs q e hD0 | exact (noAt q e hD0).elim | exact (noIs q e hD0).elim | (rw [q, hD0] at e; cases e))) (Heap.get?_push_of_some _ e)
  refine getMethod_intTab_get T ?_
  have he1 : starEach [e, .Constant (.str x) c q] env = (false, eval e env) :: starEach [.Constant (.str x) c q] env := hes
  refine callWith_method1 ?_ he1 (by rfl)
  dsimp only
  refine wpAny_items_cons (h.run _ G _ _ hp' (st.stab _ _ _ _ hP xx) xx.led fun v h₂ tk₂ G₂ hp₂ y dv => ?_) he1
  refine wpAny_items_cons (wpAny_Constant_str ?_) rfl
  refine wpAny_items_nil ?_
  apply dInt (v := v) dv; intro t
  have T₂ : IntTab prog w h₂ s.heap.objs.size (encP ps) := ⟨hlo', kvs, hd.at fun o e => y.kp _ _ (fun q => by
    obtain ⟨mL, nL⟩ := st.ns _ _ hP
    obtain ⟨o, _, _, e, _⟩ := nL
    (first | exact noAt (q).symm e hD0 | exact noIs (q).symm e hD0 | (rw [← q, hD0] at e; cases e))) e, hf⟩
  refine call_get2_intTab (dd := .str x) T₂ (Flat.str _ _) fun v fv => ?_
  rw [look_enc] at fv
  obtain ⟨t', rfl⟩ := fv.str_inv
  exact k _ h₂ _ G₂ (xx.trans y) (.str _ _)
end
end Mine
end

section
open PySem PySem.W PyProof.Rows PySem.Calls
set_option Elab.async false
set_option maxRecDepth 100000
set_option linter.all false
set_option maxHeartbeats 1000000
set_option pp.deepTerms.threshold 8
set_option pp.deepTerms false
set_option pp.proofs.threshold 2
namespace Mine
section
variable {prog : Program} {w : World} {A : Around} {h₀ : Heap} {L : Addr} {env : Env} {P : Ldg → Heap → Prop}
theorem Ev.strTo {e : PySem.Expr} {x y : Str} (q : x = y) (h : Ev prog w A L env P e (.str y)) : Ev prog w A L env P e (.str x) := q ▸ h
/-- name.upper() -/
theorem Ev.upperC {nm : Str} {np ap cp : Pos} {x : Str} (h0 : Ev prog w A L env P (.Name nm np) (.str x)) (hfit : Builtin.Str.tooLong (Txt.upper x).length = false) (hpos : (ap.endLine == cp.line) = true) :
    Ev prog w A L env P (.Call (.Attribute (.Name nm np) (Str.ofString "upper") ap) [] [] cp) (.str (Txt.upper x)) := Ev.of fun s G Q E hp hP hl k => by
  refine MethodCall_ (h0.run _ G _ _ hp hP hl fun v h' tk G' hp' yx dv => ?_) (meth_eq0 hpos)
  apply dStr (v := v) dv; intro t
  exact GM.upper (callWith_method0 (SC.upper hfit (k _ h' _ G' yx (.str _ _))))
end
theorem sgD {i : Nat} {d : Dat} (h : [Dat.list [.int 2, .str (Str.ofString "s")], .list [.int 1, .str (Str.ofString "s")], .list [.int 0, .str (Str.ofString "t")]][i]? = some d) : d = .list [.int (sgK i), .str (sgLo i)] := by
  rcases i with _ | _ | _ | i
  · cases h; rfl
  · cases h; rfl
  · cases h; rfl
  · cases h
theorem sgK_ge : ∀ i, 0 ≤ sgK i
  | 0 | 1 => by decide
  | _ + 2 => Int.le_refl 0
theorem sgK_le : ∀ i, sgK i ≤ 2
  | 0 | 1 => by decide
  | _ + 2 => show (0 : Int) ≤ 2 by decide
theorem k8 (i : Nat) : (Builtin.Int.intBits 8 : Int) * sgK i ≤ 2 ^ 27 := Int.le_trans (Int.mul_le_mul_of_nonneg_left (sgK_le i) (by decide)) (by decide +kernel)
theorem k2 (i : Nat) : (Builtin.Int.intBits 2 : Int) * sgK i ≤ 2 ^ 27 := Int.le_trans (Int.mul_le_mul_of_nonneg_left (sgK_le i) (by decide)) (by decide +kernel)
theorem ne8 (i : Nat) : (8 : Int) ^ (sgK i).toNat ≠ 0 := by
  rcases i with _ | _ | i
  · decide
  · decide
  · exact Int.one_ne_zero
theorem ne2 (i : Nat) : (2 : Int) ^ (sgK i).toNat ≠ 0 := by
  rcases i with _ | _ | i
  · decide
  · decide
  · exact Int.one_ne_zero
theorem sm8 (i : Nat) : ((8 : Int) ^ (sgK i).toNat).natAbs < 1073741824 := by
  rcases i with _ | _ | i
  · decide
  · decide
  · show (1 : Nat) < _
    decide
theorem sm2 (i : Nat) : ((2 : Int) ^ (sgK i).toNat).natAbs < 1073741824 := by
  rcases i with _ | _ | i
  · decide
  · decide
  · show (1 : Nat) < _
    decide
theorem other {x : Str} {d d1 d2 : Dat} (e : (x, d) ∈ [(Str.ofString "text", d1), (Str.ofString "bits", d2)]) : x ∉ [Str.ofString "k", Str.ofString "more"] := by
  cases e with
  | head => decide +kernel
  | tail _ e =>
    cases e with
    | head => decide +kernel
    | tail _ e => cases e
theorem up_fit (i : Nat) : Builtin.Str.tooLong (Txt.upper (sgLo i)).length = false := by
  rw [up_lo, sgUp_len]; decide +kernel
theorem ne_of_beq_false {a b : Int} (c : (a == b) = false) : ¬ a = b := beq_eq_false_iff_ne.mp c
def sgTab : List (Int × Str) := [(10, Str.ofString "l"), (12, Str.ofString "s"), (8, Str.ofString "-"), (6, Str.ofString "b"), (4, Str.ofString "d"), (2, Str.ofString "c"), (1, Str.ofString "p")]
theorem look_ite (i k : Int) (y x : Str) (ps : List (Int × Str)) : (((k, y) :: ps).lookup i).getD x = if i = k then y else (ps.lookup i).getD x := by
  rw [List.lookup_cons]
  by_cases h : i = k
  · rw [if_pos h, beq_iff_eq.mpr h]; rfl
  · rw [if_neg h, beq_eq_false_iff_ne.mpr h]
theorem sg0_tab (bits : Int) : sg0 bits = (sgTab.lookup (bits.fdiv 4096)).getD (Str.ofString "?") := by
  unfold sgTab
  rw [look_ite, look_ite, look_ite, look_ite, look_ite, look_ite, look_ite]; rfl
theorem fsig {bits : Int} (h0 : 0 ≤ bits) (h1 : bits < 65536) : FnD 119 4 [.int bits] (.str (sgText bits 3)) := by
  constructor
  intro w loose mean mg mb dp un gd cn cs a ccd cl outer A₀ base h₀ L m s G vs Q E B X T hk hd1 hu F htk hl dvs k
  apply daCons (vs := vs) dvs; intro v1 vs_1 d1 r
  apply daNil (vs := vs_1) r
  refine wpAny_call ?_
  refine enterC (K := hd.heap_39 w.params) (p := hd.view_39) B F X T rfl rfl hk (by rfl) (by rfl) (show dp < _ from Nat.lt_of_le_of_lt (Nat.le_add_right dp _) hd1) (BindsTo.of_eq rfl) (by rfl) (by decide) (fun L' h₁ tk cells hle F' N' CA B' X' T' => ?_) (by rfl) (by rfl) (by rfl)
  have en := FP.enter (lv := [(Str.ofString "bits", .int bits)]) (nms := []) (cv := []) F' hl (fun z d e => by cases e with | head => exact ⟨v1, rfl, d1⟩ | tail _ e => nomatch e) N' (fun x c hx => nomatch hx) (fun x c x' hx => nomatch hx) (fun x c d e => nomatch e)
  with_reducible refine Run.run (P := FP s.heap L' G [] [(Str.ofString "bits", .int bits)] []) (s₀ := s) ?_ h₁ tk G (Nat.lt_of_lt_of_le htk hle) en.1 en.2
  have hlo : ∃ b o, s.heap.get? b = some o ∧ sysModules ≤ b := ⟨119, _, F.keep _ _ (X 119 _ (by rfl)), by decide⟩
  clear en CA F' N' d1
  refine Run.asg (d := .str (sgText bits 0)) rfl ?v0 ?k1
  case v0 =>
    rw [show sgText bits 0 = _ from sg0_tab bits]
    refine Ev.dictGet (ps := sgTab) FP.frame ?kv ?ee ?nn ?ll ?nd ?ppos ?es hlo
    case kv => exact .cons (.cons (.cons (.cons (.cons (.cons (.cons .nil))))))
    case ee => exact Ev.bin FP.frame (by (repeat' first | exact Ev.cInt | exact Ev.cStr | exact Ev.loc (FP.at (by repeat (first | with_reducible exact List.mem_cons_self | with_reducible refine List.mem_cons_of_mem _ ?_))))) Ev.cInt (fdiv_iD (by decide) (by decide))
    case nn => exact List.cons_ne_nil _ _
    case ll => decide
    case nd => decide
    case ppos => rfl
    case es => rfl
  refine Run.forA (lvJ := fun i => [(Str.ofString "text", .str (sgText bits i)), (Str.ofString "bits", .int bits)]) (lvT := fun i _ => [(Str.ofString "k", .int (sgK i)), (Str.ofString "more", .str (sgLo i)), (Str.ofString "text", .str (sgText bits i)), (Str.ofString "bits", .int bits)]) (cvT := fun _ => []) (ds := [Dat.list [.int 2, .str (Str.ofString "s")], .list [.int 1, .str (Str.ofString "s")], .list [.int 0, .str (Str.ofString "t")]]) ?hh ?hi (fun p hp => hp) ?ha ?hb ?kk
  case hh => rfl
  case hi => exact Ev.list FP.frame (EvL.cons FP.frame (Ev.list FP.frame (EvL.cons FP.frame Ev.cInt (EvL.cons FP.frame Ev.cStr EvL.nil))) (EvL.cons FP.frame (Ev.list FP.frame (EvL.cons FP.frame Ev.cInt (EvL.cons FP.frame Ev.cStr EvL.nil))) (EvL.cons FP.frame (Ev.list FP.frame (EvL.cons FP.frame Ev.cInt (EvL.cons FP.frame Ev.cStr EvL.nil))) EvL.nil)))
  case ha =>
    intro G₁ i d G h tk v Q E hd htk y l dv kk
    obtain rfl := sgD hd
    obtain ⟨m, F, b⟩ := y.loc
    refine wpToks (s := { s with heap := h, toks := tk }) htk ((asg_tuple (xs := [(Str.ofString "k", _), (Str.ofString "more", _)]) rfl rfl (by kernel_rfl!) rfl (List.forall_mem_cons.mpr ⟨by kernel_rfl!, List.forall_mem_cons.mpr ⟨by kernel_rfl!, fun _ e => nomatch e⟩⟩) (by decide +kernel) (by rfl) (by rfl)).run _ G m v _ _ l F.ns y.off dv fun h₃ tk₃ m₃ kp₃ n₃ b₃ r₃ htk₃ => ?_)
    refine (y.chg l n₃ kp₃ fun x d e => ?_).elim fun y' l' => kk h₃ tk₃ (Nat.lt_of_lt_of_le (Nat.succ_pos _) htk₃) y' l'
    rcases List.mem_append.mp (show (x, d) ∈ [(Str.ofString "k", Dat.int (sgK i)), (Str.ofString "more", .str (sgLo i))] ++ [(Str.ofString "text", .str (sgText bits i)), (Str.ofString "bits", .int bits)] from e) with q | q
    · exact b₃ x d q
    · rw [r₃ x (other q)]
      exact b x d q
  case kk =>
    refine Run.ret FP.frame (by (repeat' first | exact Ev.cInt | exact Ev.cStr | exact Ev.loc (FP.at (by repeat (first | with_reducible exact List.mem_cons_self | with_reducible refine List.mem_cons_of_mem _ ?_))))) fun v h tk' G' htk' hP hl' dv => ?_
    obtain ⟨m', F'', _⟩ := hP.loc
    exact k v h tk' G' F''.keep hP.sub hP.new hl' dv
  case hb =>
    intro G₁ i d E' hd
    refine Run.asg (d := .int (sg3 bits i)) rfl (Ev.bin FP.frame (Ev.bin FP.frame (by (repeat' first | exact Ev.cInt | exact Ev.cStr | exact Ev.loc (FP.at (by repeat (first | with_reducible exact List.mem_cons_self | with_reducible refine List.mem_cons_of_mem _ ?_))))) (Ev.bin FP.frame Ev.cInt (by (repeat' first | exact Ev.cInt | exact Ev.cStr | exact Ev.loc (FP.at (by repeat (first | with_reducible exact List.mem_cons_self | with_reducible refine List.mem_cons_of_mem _ ?_))))) (pow_iD (sgK_ge i) (k8 i))) (fdiv_iD (ne8 i) (sm8 i))) Ev.cInt (mod_iD (by decide))) ?_
    have hl := sgText_len bits i
    have h3 : i < 3 := (List.getElem?_eq_some_iff.mp hd).1
    refine Run.asg (d := .str (if (sg3 bits i).fmod 2 = 1 then sgLo i else sgUp i)) rfl (Ev.ite FP.frame (EvT.cmp FP.frame (Ev.bin FP.frame (by (repeat' first | exact Ev.cInt | exact Ev.cStr | exact Ev.loc (FP.at (by repeat (first | with_reducible exact List.mem_cons_self | with_reducible refine List.mem_cons_of_mem _ ?_))))) Ev.cInt (mod_iD (by decide))) Ev.cInt eq_iD) (fun c => ?_) (fun c => ?_)) ?_
    · exact .strTo (if_pos (eq_of_beq c)) (by (repeat' first | exact Ev.cInt | exact Ev.cStr | exact Ev.loc (FP.at (by repeat (first | with_reducible exact List.mem_cons_self | with_reducible refine List.mem_cons_of_mem _ ?_)))))
    · exact .strTo ((if_neg (ne_of_beq_false c)).trans (up_lo i).symm) (Ev.upperC (by (repeat' first | exact Ev.cInt | exact Ev.cStr | exact Ev.loc (FP.at (by repeat (first | with_reducible exact List.mem_cons_self | with_reducible refine List.mem_cons_of_mem _ ?_))))) (up_fit i) rfl)
    refine Run.asgR (lvr := [(Str.ofString "last", .str (if (sg3 bits i).fmod 2 = 1 then sgLo i else sgUp i)), (Str.ofString "three", .int (sg3 bits i)), (Str.ofString "k", .int (sgK i)), (Str.ofString "more", .str (sgLo i)), (Str.ofString "bits", .int bits)]) (d := .str (sgText bits i ++ sgR bits i ++ sgW bits i)) rfl ?e1 ?s1 ?kx
    case e1 =>
      refine Ev.bin FP.frame (Ev.bin FP.frame (by (repeat' first | exact Ev.cInt | exact Ev.cStr | exact Ev.loc (FP.at (by repeat (first | with_reducible exact List.mem_cons_self | with_reducible refine List.mem_cons_of_mem _ ?_))))) ?a1 (add_sD ?z1)) ?a2 (add_sD ?z2)
      case a1 =>
        refine Ev.ite FP.frame (EvT.cmp FP.frame (by (repeat' first | exact Ev.cInt | exact Ev.cStr | exact Ev.loc (FP.at (by repeat (first | with_reducible exact List.mem_cons_self | with_reducible refine List.mem_cons_of_mem _ ?_))))) Ev.cInt gt_iD) (fun c => ?_) (fun c => ?_)
        · exact .strTo (show sgR bits i = Str.ofString "r" from if_pos (of_decide_eq_true c)) Ev.cStr
        · exact .strTo (show sgR bits i = Str.ofString "-" from if_neg (of_decide_eq_false c)) Ev.cStr
      case a2 =>
        refine Ev.ite FP.frame (EvT.cmp FP.frame (Ev.bin FP.frame (Ev.bin FP.frame (by (repeat' first | exact Ev.cInt | exact Ev.cStr | exact Ev.loc (FP.at (by repeat (first | with_reducible exact List.mem_cons_self | with_reducible refine List.mem_cons_of_mem _ ?_))))) Ev.cInt (fdiv_iD (by decide) (by decide))) Ev.cInt (mod_iD (by decide))) Ev.cInt eq_iD) (fun c => ?_) (fun c => ?_)
        · exact .strTo (show sgW bits i = Str.ofString "w" from if_pos (eq_of_beq c)) Ev.cStr
        · exact .strTo (show sgW bits i = Str.ofString "-" from if_neg (ne_of_beq_false c)) Ev.cStr
      case z1 => rw [sgR_len, hl, sizeLine_eq]; omega
      case z2 => rw [Str.length_append, sgR_len, sgW_len, hl, sizeLine_eq]; omega
    case s1 => exact List.Sublist.subset (.cons₂ _ (.cons₂ _ (.cons₂ _ (.cons₂ _ (.cons _ (.cons₂ _ .slnil))))))
    refine Run.asgR (lvr := [(Str.ofString "bits", .int bits)]) (d := .str (sgText bits (i + 1))) rfl ?e2 ?s2 (.mk fun h tk G htk y l => wpAny_execs_nil ⟨rfl, h, tk, G, rfl, htk, y, l⟩)
    case e2 =>
      refine Ev.bin FP.frame (by (repeat' first | exact Ev.cInt | exact Ev.cStr | exact Ev.loc (FP.at (by repeat (first | with_reducible exact List.mem_cons_self | with_reducible refine List.mem_cons_of_mem _ ?_))))) ?a3 (add_sD (by rw [Str.length_append, Str.length_append, sgR_len, sgW_len, sgX_len, hl, sizeLine_eq]; omega))
      refine Ev.ite FP.frame (EvT.cmp FP.frame (Ev.bin FP.frame (Ev.bin FP.frame (Ev.bin FP.frame (by (repeat' first | exact Ev.cInt | exact Ev.cStr | exact Ev.loc (FP.at (by repeat (first | with_reducible exact List.mem_cons_self | with_reducible refine List.mem_cons_of_mem _ ?_))))) Ev.cInt (fdiv_iD (by decide) (by decide))) (Ev.bin FP.frame Ev.cInt (by (repeat' first | exact Ev.cInt | exact Ev.cStr | exact Ev.loc (FP.at (by repeat (first | with_reducible exact List.mem_cons_self | with_reducible refine List.mem_cons_of_mem _ ?_))))) (pow_iD (sgK_ge i) (k2 i))) (fdiv_iD (ne2 i) (sm2 i))) Ev.cInt (mod_iD (by decide))) Ev.cInt eq_iD) (fun c => ?_) (fun c => ?_)
      · exact .strTo (show sgX bits i = _ from if_pos (eq_of_beq c)) (by (repeat' first | exact Ev.cInt | exact Ev.cStr | exact Ev.loc (FP.at (by repeat (first | with_reducible exact List.mem_cons_self | with_reducible refine List.mem_cons_of_mem _ ?_)))))
      · refine .strTo (show sgX bits i = _ from if_neg (ne_of_beq_false c)) (Ev.ite FP.frame (EvT.cmp FP.frame (Ev.bin FP.frame (by (repeat' first | exact Ev.cInt | exact Ev.cStr | exact Ev.loc (FP.at (by repeat (first | with_reducible exact List.mem_cons_self | with_reducible refine List.mem_cons_of_mem _ ?_))))) Ev.cInt (mod_iD (by decide))) Ev.cInt eq_iD) (fun c => ?_) (fun c => ?_))
        · exact .strTo (if_pos (eq_of_beq c)) Ev.cStr
        · exact .strTo (if_neg (ne_of_beq_false c)) Ev.cStr
    case s2 => exact List.forall_mem_cons.mpr ⟨.tail _ (.tail _ (.tail _ (.tail _ (.tail _ (.head _))))), fun _ e => nomatch e⟩
end Mine
end

section
open PySem PySem.W PyProof.Rows PySem.Calls PySem.SeqAt
set_option Elab.async false
set_option maxRecDepth 100000
set_option linter.all false
set_option maxHeartbeats 2000000
set_option pp.deepTerms.threshold 8
set_option pp.deepTerms false
set_option pp.proofs.threshold 2
namespace Mine
def toF : Dat → FRow
  | .list [.int k, .str n, .int b, .int m] => ⟨k, n, b, m⟩
  | _ => ⟨0, Str.ofString "", 0, 0⟩
theorem toF_of (r : FRow) : toF (fileD r) = r := rfl
theorem map_toF (rows : List FRow) : (rows.map fileD).map toF = rows := by
  rw [List.map_map]
  exact List.map_id'' (fun _ => rfl) rows
def itemsD : Dat → List Dat
  | .list ds => ds
  | _ => []
def toldD (rows : List FRow) : Dat := .list [.list ((ownOf (sideOf rows) 6).map rowOf), .list (rows.map heardD)]
def toldOf (d : Dat) : Dat := toldD ((itemsD d).map toF)
theorem toldOf_files (rows : List FRow) : toldOf (.list (rows.map fileD)) = toldD rows := by
  unfold toldOf itemsD
  rw [map_toF]
def filesD (ns : List Int) : List Dat := [.list ((rowsOf ns 0).map fileD), .list ((rowsOf ns 1).map fileD)]
theorem filesD_mem {ns : List Int} {d : Dat} (h : d ∈ filesD ns) : ∃ sv, (sv = 0 ∨ sv = 1) ∧ d = .list ((rowsOf ns sv).map fileD) := by
  unfold filesD at h
  simp only [List.mem_cons, List.not_mem_nil, or_false] at h
  rcases h with rfl | rfl
  · exact ⟨0, .inl rfl, rfl⟩
  · exact ⟨1, .inr rfl, rfl⟩
theorem filesD_map {ns : List Int} (f : Dat → Dat) (g : List FRow → Dat) (h : ∀ rows, f (.list (rows.map fileD)) = g rows) : ((filesD ns).filter fun _ => true).map f = [g (rowsOf ns 0), g (rowsOf ns 1)] := by
  show [f _, f _] = _
  rw [h, h]
def atD (k : Nat) : Dat → Dat
  | .list ds => ds.getD k .none
  | _ => .none
theorem heardOf_told (rows : List FRow) : atD 1 (toldD rows) = .list (rows.map heardD) := rfl
def expOf (d : Dat) : Dat := .list ((itemsD d).map fun d => expD (toF d))
theorem expOf_files (rows : List FRow) : expOf (.list (rows.map fileD)) = .list (rows.map expD) := by
  unfold expOf itemsD
  rw [List.map_map]; rfl
theorem rows_map (rows : List FRow) (g : FRow → Dat) : ((rows.map fileD).filter fun _ => true).map (fun d => g (toF d)) = rows.map g := by
  rw [List.filter_eq_self.mpr (by simp), List.map_map]; rfl
def heardX (ns : List Int) : List Dat := [.list ((rowsOf ns 0).map expD), .list ((rowsOf ns 1).map expD)]
theorem row_mem {rows : List FRow} {d : Dat} (h : d ∈ rows.map fileD) : ∃ r, r ∈ rows ∧ d = fileD r := by
  obtain ⟨r, hr, rfl⟩ := List.mem_map.mp h
  exact ⟨r, hr, rfl⟩
def sidesOf (d : Dat) : Dat := .list ((sideOf ((itemsD d).map toF)).map rowOf)
theorem sidesOf_files (rows : List FRow) : sidesOf (.list (rows.map fileD)) = .list ((sideOf rows).map rowOf) := by
  unfold sidesOf itemsD
  rw [map_toF]
theorem side_map : ∀ rows : List FRow, ((rows.map fileD).filter fun d => decide ((toF d).kind < 5)).map (fun d => rowOf (sideRow (toF d))) = (sideOf rows).map rowOf
  | [] => rfl
  | r :: rows => by
    have ih := side_map rows
    unfold sideOf at ih ⊢
    rw [List.map_cons, List.filter_cons, List.filter_cons, toF_of]
    by_cases h : r.kind < 5
    · rw [if_pos (by simpa using h), if_pos (by simpa using h), List.map_cons, List.map_cons, List.map_cons, ih, toF_of]
    · rw [if_neg (by simpa using h), if_neg (by simpa using h), ih]
theorem sideOf_len (rows : List FRow) : (sideOf rows).length ≤ rows.length := by
  unfold sideOf
  rw [List.length_map]
  exact List.length_filter_le _ _
theorem rows_bits {ns : List Int} {sv : Int} {r : FRow} (h : r ∈ rowsOf ns sv) : 0 ≤ r.bits ∧ r.bits < 65536 := by
  unfold rowsOf at h
  obtain ⟨x, _, rfl⟩ := List.mem_map.mp h
  show 0 ≤ (x.fdiv 18 + sv * x.fmod 2).fmod 65536 ∧ (x.fdiv 18 + sv * x.fmod 2).fmod 65536 < 65536
  rw [Int.fmod_eq_emod_of_nonneg _ (by decide)]
  omega
theorem ne_opt {prog : Program} {w : World} {A : Around} {L : Addr} (a b : Option Str) : CmpD prog w A L .NotEq (optD a) (optD b) (!decide (a = b)) := ⟨fun s G m v₁ v₂ Q E _ l _ _ d₁ d₂ k => (by
  cases a with
  | none =>
    cases b with
    | none => (first | (apply dInt (v := v₁) d₁; intro _) | (apply dStr (v := v₁) d₁; intro _) | apply dBool (v := v₁) d₁ | apply dNone (v := v₁) d₁); (first | (apply dInt (v := v₂) d₂; intro _) | (apply dStr (v := v₂) d₂; intro _) | apply dBool (v := v₂) d₂ | apply dNone (v := v₂) d₂); exact EqNone.ne_none_none (k _ _ _ (.rfl' l))
    | some b => (first | (apply dInt (v := v₁) d₁; intro _) | (apply dStr (v := v₁) d₁; intro _) | apply dBool (v := v₁) d₁ | apply dNone (v := v₁) d₁); (first | (apply dInt (v := v₂) d₂; intro _) | (apply dStr (v := v₂) d₂; intro _) | apply dBool (v := v₂) d₂ | apply dNone (v := v₂) d₂); exact EqNone.ne_none_str (k _ _ _ (.rfl' l))
  | some a =>
    cases b with
    | none => (first | (apply dInt (v := v₁) d₁; intro _) | (apply dStr (v := v₁) d₁; intro _) | apply dBool (v := v₁) d₁ | apply dNone (v := v₁) d₁); (first | (apply dInt (v := v₂) d₂; intro _) | (apply dStr (v := v₂) d₂; intro _) | apply dBool (v := v₂) d₂ | apply dNone (v := v₂) d₂); exact EqNone.ne_str_none (k _ _ _ (.rfl' l))
    | some b =>
      (first | (apply dInt (v := v₁) d₁; intro _) | (apply dStr (v := v₁) d₁; intro _) | apply dBool (v := v₁) d₁ | apply dNone (v := v₁) d₁); (first | (apply dInt (v := v₂) d₂; intro _) | (apply dStr (v := v₂) d₂; intro _) | apply dBool (v := v₂) d₂ | apply dNone (v := v₂) d₂)
      have e : (!decide (some a = some b)) = (a != b) := by
        by_cases h : a = b
        · simp [h]
        · simp [h]
      rw [e] at k
      exact PyProof.Rows.ne_str (k _ _ _ (.rfl' l)))⟩
def optRow (n : Str) : Option Str → List Row
  | some s => [(n, s)]
  | none => []
theorem isNot_opt {prog : Program} {w : World} {A : Around} {L : Addr} (a : Option Str) : CmpD prog w A L .IsNot (optD a) .none a.isSome := by
  cases a with
  | none => exact isNot_none_yes
  | some a => exact isNot_none_str
theorem ownOf_succ (side : List Row) {i : Nat} {n : Str} (h : namesS[i]? = some n) : ownOf side (i + 1) = ownOf side i ++ optRow n (lastS side n) := by
  unfold ownOf
  rw [List.take_add_one, h, List.filterMap_append]
  congr 1
  show List.filterMap _ [n] = _
  rw [List.filterMap_cons]
  cases lastS side n <;> rfl
theorem dueOf_succ (s0 s1 : List Row) {i : Nat} {n : Str} (h : namesS[i]? = some n) : dueOf s0 s1 (i + 1) = dueOf s0 s1 i ++ (if lastS s0 n = lastS s1 n then [] else [.list [.str n, optD (lastS s0 n), optD (lastS s1 n)]]) := by
  unfold dueOf
  rw [List.take_add_one, h, List.flatMap_append]
  congr 1
  show List.flatMap _ [n] = _
  rw [List.flatMap_cons, List.flatMap_nil, List.append_nil]
theorem last_split (l : List Str) : ∃ init, Dat.none :: l.map Dat.str = init ++ [optD l.getLast?] := by
  cases h : l.getLast? with
  | none =>
    have : l = [] := List.getLast?_eq_none_iff.mp h
    subst this
    exact ⟨[], rfl⟩
  | some s =>
    obtain ⟨ys, rfl⟩ := List.getLast?_eq_some_iff.mp h
    exact ⟨Dat.none :: ys.map Dat.str, by simp [optD]⟩
theorem dueOf_len (s0 s1 : List Row) (i : Nat) : (dueOf s0 s1 i).length ≤ 6 := by
  unfold dueOf
  rw [List.length_flatMap]
  have h1 : ∀ l : List Str, ((l.map fun n => (if lastS s0 n = lastS s1 n then ([] : List Dat) else [.list [.str n, optD (lastS s0 n), optD (lastS s1 n)]]).length)).sum ≤ l.length := by
    intro l
    induction l with
    | nil => simp
    | cons n l ih =>
      rw [List.map_cons, List.sum_cons, List.length_cons]
      split
      · simp only [List.length_nil]; omega
      · simp only [List.length_cons, List.length_nil]; omega
  refine Nat.le_trans (h1 _) ?_
  rw [List.length_take]
  exact Nat.min_le_right _ _
def rowD2 : Dat → Row := toRow
def sideRows (d : Dat) : List Row := (itemsD d).map toRow
theorem sideRows_of (s : List Row) : sideRows (.list (s.map rowOf)) = s := by
  unfold sideRows itemsD
  rw [List.map_map]
  exact List.map_id'' (fun _ => rfl) s
theorem signs_map (n : Str) : ∀ s : List Row, ((s.map rowOf).filter fun d => (toRow d).1 == n).map (fun d => Dat.str (toRow d).2) = (signsFor s n).map Dat.str
  | [] => rfl
  | r :: s => by
    have ih := signs_map n s
    unfold signsFor at ih ⊢
    rw [List.map_cons, List.filter_cons, List.filter_cons, toRow_of]
    by_cases h : (r.1 == n) = true
    · rw [if_pos h, if_pos h, List.map_cons, List.map_cons, List.map_cons, ih, toRow_of]
    · rw [if_neg h, if_neg h, ih]
theorem signs_len (s : List Row) (n : Str) : (signsFor s n).length ≤ s.length := by
  unfold signsFor
  rw [List.length_map]
  exact List.length_filter_le _ _
def lawLv (ns : List Int) (i : Nat) : List (Str × Dat) :=
  [(Str.ofString "sides", .list [.list ((sideOf (rowsOf ns 0)).map rowOf), .list ((sideOf (rowsOf ns 1)).map rowOf)]), (Str.ofString "due", .list (dueOf (sideOf (rowsOf ns 0)) (sideOf (rowsOf ns 1)) i)),
    (Str.ofString "own", .list [.list ((ownOf (sideOf (rowsOf ns 0)) i).map rowOf), .list ((ownOf (sideOf (rowsOf ns 1)) i).map rowOf)]), (Str.ofString "told", .list [toldD (rowsOf ns 0), toldD (rowsOf ns 1)])]
theorem okB_rows {n : Nat} {rs : List Row} (h : ∀ r ∈ rs, rowOk r = true) : okB (n + 2) (.list (rs.map rowOf)) = true := by
  show List.all (rs.map rowOf) (okB (n + 1)) = true
  rw [List.all_eq_true]
  intro d hd
  obtain ⟨r, hr, rfl⟩ := List.mem_map.mp hd
  have h1 := h r hr
  unfold rowOk at h1
  rw [Bool.and_eq_true] at h1
  show (okB n (.str r.1) && (okB n (.str r.2) && true)) = true
  cases n <;> simp [okB, h1]
theorem thrice_sub {one two : List Row} {r : Row} (h : r ∈ thriceP one two) : r ∈ one := by
  unfold thriceP at h
  obtain ⟨r', h1, h2⟩ := List.mem_flatMap.mp h
  unfold thrOf at h2
  split at h2
  · cases h2
  · have := List.eq_of_mem_replicate h2
    rw [this]; exact h1
theorem tri_len (rs : List Row) : (tri rs).length = 3 * rs.length := by
  unfold tri
  induction rs with
  | nil => rfl
  | cons r rs ih => rw [List.flatMap_cons, List.length_append, ih]; simp; omega
theorem trip_map (rs : List Row) : ((List.replicate 3 rs).flatten).map rowOf = (List.replicate (3 : Int).toNat (rs.map rowOf)).flatten := by
  show _ = (List.replicate 3 (rs.map rowOf)).flatten
  simp [List.replicate, List.map_append]
def moreD (o0 o1 : List Row) : Dat := .list [.list [.list ((thriceP o0 o1).map rowOf), .list ((thriceP o1 o0).map rowOf)], .list [.list [], .list (o1.map rowOf)], .list [.list (o0.map rowOf), .list []]]
theorem okB_more {o0 o1 : List Row} (h0 : ∀ r ∈ o0, rowOk r = true) (h1 : ∀ r ∈ o1, rowOk r = true) : okB 8 (moreD o0 o1) = true := by
  have a1 : okB 6 (.list ((thriceP o0 o1).map rowOf)) = true := okB_rows fun r hr => h0 r (thrice_sub hr)
  have a2 : okB 6 (.list ((thriceP o1 o0).map rowOf)) = true := okB_rows fun r hr => h1 r (thrice_sub hr)
  have a3 : okB 6 (.list (o0.map rowOf)) = true := okB_rows h0
  have a4 : okB 6 (.list (o1.map rowOf)) = true := okB_rows h1
  have a5 : okB 6 (.list []) = true := rfl
  have b : ∀ x y : Dat, okB 6 x = true → okB 6 y = true → okB 7 (.list [x, y]) = true := fun x y hx hy => by
    show List.all [x, y] (okB 6) = true
    simp [hx, hy]
  have c1 := b _ _ a1 a2
  have c2 := b _ _ a5 a4
  have c3 := b _ _ a3 a5
  show List.all [_, _, _] (okB 7) = true
  simp [c1, c2, c3]
/-- what the law's body does in its frame -/
def LawRuns (w : World) (ns : List Int) (name : Str) (scope : Scope) (body : List Stmt) : Prop :=
  ∀ (loose : List Str) (mean : ExcName → Option Value) (mg mb : Str → Option Value) (fa : Addr) (cd : Value) (h₀ h₁ : Heap) (L l : Addr) (vs : List Value) (s : Shared) (tk : Nat) (Q : Flow → Shared → Prop),
      Below callerA h₀ [] h₀ → (hd.heap_39 w.params).In h₀ → Top hd.view_39 loose mean mg mb h₀ → h₀.IsList l (List.toArray vs) → IntsAre vs ns →
      FPS h₀ L [] [(Str.ofString "name", L + 1 + 1), (Str.ofString "numbers", L + 1)] (Str.ofString "script") l [] h₁ → (∀ h tk m, Fr h₀ L h m → Q (.ret (.bool true)) { s with heap := h, toks := tk }) →
      wpAny (model PySem.Challenge.rw_om0036_01.row.prog w) (callerA.deeper (envOfC name scope L fa cd)) (execs body (envOfC name scope L fa cd)) Q (fun _ _ => False) { s with heap := h₁, toks := tk }
inductive LawRun (w : World) (ns : List Int) : Prop
  | mk (oc : Value) (od : Option Addr) (name qual : Str) (params : Arguments) (body : List Stmt) (scope : Scope) (dV kV doc pm : Value) (an : Option Addr) (cdv ct : Value) (osl : Array (Option Value))
    (hlk : (hd.heap_39 w.params).lookup 148 = some ⟨oc, od, .func (fnOf name qual params body scope dV kV doc pm an cdv ct), osl⟩) (run : LawRuns w ns name scope body) : LawRun w ns
theorem law_run (w : World) (ns : List Int) (hns : ns.length ≤ 63) (ok : LawOk ns) : LawRun w ns := by
  refine ⟨_, _, _, _, _, _, _, _, _, _, _, _, _, _, _, by rfl, ?_⟩
  intro loose mean mg mb fa cd h₀ h₁ L lS vsS s tk Q B X T hIs hI fp hQ
  have key : ∀ (env : Env) (A : Around) (ss : List Stmt) (Q : Flow → Shared → Prop), Run0 PySem.Challenge.rw_om0036_01.row.prog w A env s (FPS h₀ L [] [(Str.ofString "name", L + 1 + 1), (Str.ofString "numbers", L + 1)] (Str.ofString "script") lS) ss Q (fun _ _ => False) → wpAny (model PySem.Challenge.rw_om0036_01.row.prog w) A (execs ss env) Q (fun _ _ => False) { s with heap := h₁, toks := tk } := fun env A ss Q r => r.run h₁ tk [] fp (fun p hp => nomatch hp)
  refine key _ _ _ _ ?_
  clear key fp
  have hvl : vsS.length = ns.length := by
    have : ∀ {vs : List Value} {ns : List Int}, IntsAre vs ns → vs.length = ns.length := fun h => by induction h <;> simp_all
    exact this hI
  -- numbers = [..] + script[:4]
  refine Run0.asgC (c := L + 1) (d := .list ((numsOf ns).map .int)) FPS.frame (fun G h y => y.1) ?_ (.tail _ (.head _)) ?_
  · have e : (numsOf ns).map Dat.int = fixedNums.map Dat.int ++ (ns.take 4).map Dat.int := by unfold numsOf; rw [List.map_append]
    rw [e]
    refine Ev0.bin FPS.frame (Ev0.list FPS.frame (EvL0.cons FPS.frame Ev0.cInt ?_) (Nat.le_of_ble_eq_true rfl)) (Ev.sliceRaw rfl hIs hI (by rw [hvl, sizeLine_eq]; omega) (by kernel_rfl!) (by kernel_rfl!) (by decide +kernel)) (add_lD (xs := fixedNums.map Dat.int) (by rw [List.length_map, List.length_map, List.length_take, sizeLine_eq]; have : fixedNums.length = 14 := rfl; omega))
    repeat (first | exact EvL.nil | refine EvL.cons FPS.frame Ev.cInt ?_)
  -- files, due, own = ([_law_files(numbers, server) for server in [0, 1]], [], [[], []])
  refine Run.swap (names := [Str.ofString "files", Str.ofString "due", Str.ofString "own"]) (ds := [.list (filesD ns), .list [], .list [.list [], .list []]]) (lvr := []) rfl rfl ?files (fun p hp => nomatch hp) ?rest1 rfl (Nat.le_of_ble_eq_true rfl) ?hxk (by decide +kernel) (fun p hp => nomatch hp)
  case files =>
    refine EvL.cons FP.frame (Ev.comp (h₀ := h₀) (ds := [.int 0, .int 1]) (fun d => [(Str.ofString "server", d)]) (fun _ => true) (ofInt fun sv => .list ((rowsOf ns sv).map fileD)) FP.frame rfl (by rfl) (by decide) (by rfl) (by decide) (by (repeat' first | exact Ev.cInt | exact Ev.cStr | exact Ev.cNone | exact Ev.cBool | exact Ev.loc (CP.at (by repeat (first | with_reducible exact List.mem_cons_self | with_reducible refine List.mem_cons_of_mem _ ?_))) | exact Ev.loc (FP.at (by repeat (first | with_reducible exact List.mem_cons_self | with_reducible refine List.mem_cons_of_mem _ ?_))) | exact Ev.cap (fun _ _ x => x.1) (by repeat (first | with_reducible exact List.mem_cons_self | with_reducible refine List.mem_cons_of_mem _ ?_)) | exact Ev.cap (fun _ _ x => x) (by repeat (first | with_reducible exact List.mem_cons_self | with_reducible refine List.mem_cons_of_mem _ ?_)) | exact Ev.cap (fun _ _ x => x.1.1) (by repeat (first | with_reducible exact List.mem_cons_self | with_reducible refine List.mem_cons_of_mem _ ?_)) | refine Ev.list (by first | exact FP.frame | exact CP.frame FP.frame | exact CP.frame (CP.frame FP.frame)) ?_ | exact EvL.nil | refine EvL.cons (by first | exact FP.frame | exact CP.frame FP.frame | exact CP.frame (CP.frame FP.frame)) ?_ ?_)) (Nat.le_of_ble_eq_true rfl) ?_ ?_ ?_) (EvL.cons FP.frame (Ev.list FP.frame EvL.nil) (EvL.cons FP.frame (Ev.list FP.frame (EvL.cons FP.frame (Ev.list FP.frame EvL.nil) (EvL.cons FP.frame (Ev.list FP.frame EvL.nil) EvL.nil))) EvL.nil))
    · intro C d _
      exact asg_name rfl (by kernel_rfl!) (by kernel_rfl!)
    · intro C d _
      exact EvTs.nil
    · intro C d hm _
      obtain ⟨sv, hsv, rfl⟩ : ∃ sv : Int, (sv = 0 ∨ sv = 1) ∧ d = .int sv := by
        simp only [List.mem_cons, List.not_mem_nil, or_false] at hm
        rcases hm with rfl | rfl
        · exact ⟨0, .inl rfl, rfl⟩
        · exact ⟨1, .inr rfl, rfl⟩
      show Ev _ _ _ _ _ _ _ (.list ((rowsOf ns sv).map fileD))
      rw [files_rows]
      refine Ev.call (CP.frame FP.frame) B X T (by rfl) (by decide) (by decide) (ffiles (numsOf ns) sv (by have := numsOf_len ns; omega) hsv) (EvL.cons (CP.frame FP.frame) (by (repeat' first | exact Ev.cInt | exact Ev.cStr | exact Ev.cNone | exact Ev.cBool | exact Ev.loc (CP.at (by repeat (first | with_reducible exact List.mem_cons_self | with_reducible refine List.mem_cons_of_mem _ ?_))) | exact Ev.loc (FP.at (by repeat (first | with_reducible exact List.mem_cons_self | with_reducible refine List.mem_cons_of_mem _ ?_))) | exact Ev.cap (fun _ _ x => x.1) (by repeat (first | with_reducible exact List.mem_cons_self | with_reducible refine List.mem_cons_of_mem _ ?_)) | exact Ev.cap (fun _ _ x => x) (by repeat (first | with_reducible exact List.mem_cons_self | with_reducible refine List.mem_cons_of_mem _ ?_)) | exact Ev.cap (fun _ _ x => x.1.1) (by repeat (first | with_reducible exact List.mem_cons_self | with_reducible refine List.mem_cons_of_mem _ ?_)) | refine Ev.list (by first | exact FP.frame | exact CP.frame FP.frame | exact CP.frame (CP.frame FP.frame)) ?_ | exact EvL.nil | refine EvL.cons (by first | exact FP.frame | exact CP.frame FP.frame | exact CP.frame (CP.frame FP.frame)) ?_ ?_)) (EvL.cons (CP.frame FP.frame) (by (repeat' first | exact Ev.cInt | exact Ev.cStr | exact Ev.cNone | exact Ev.cBool | exact Ev.loc (CP.at (by repeat (first | with_reducible exact List.mem_cons_self | with_reducible refine List.mem_cons_of_mem _ ?_))) | exact Ev.loc (FP.at (by repeat (first | with_reducible exact List.mem_cons_self | with_reducible refine List.mem_cons_of_mem _ ?_))) | exact Ev.cap (fun _ _ x => x.1) (by repeat (first | with_reducible exact List.mem_cons_self | with_reducible refine List.mem_cons_of_mem _ ?_)) | exact Ev.cap (fun _ _ x => x) (by repeat (first | with_reducible exact List.mem_cons_self | with_reducible refine List.mem_cons_of_mem _ ?_)) | exact Ev.cap (fun _ _ x => x.1.1) (by repeat (first | with_reducible exact List.mem_cons_self | with_reducible refine List.mem_cons_of_mem _ ?_)) | refine Ev.list (by first | exact FP.frame | exact CP.frame FP.frame | exact CP.frame (CP.frame FP.frame)) ?_ | exact EvL.nil | refine EvL.cons (by first | exact FP.frame | exact CP.frame FP.frame | exact CP.frame (CP.frame FP.frame)) ?_ ?_)) EvL.nil))
  case hxk =>
    (repeat' first | with_reducible exact List.forall_mem_nil _ | refine List.forall_mem_cons.mpr ⟨?_, ?_⟩ | kernel_rfl!)
  change Run _ _ _ _ _ (FP h₀ L [] [(Str.ofString "name", L + 1 + 1), (Str.ofString "numbers", L + 1)] [(Str.ofString "files", .list (filesD ns)), (Str.ofString "due", .list []), (Str.ofString "own", .list [.list [], .list []])] [(Str.ofString "numbers", L + 1, .list ((numsOf ns).map .int))]) _ _ _
  -- told = [_law_listing(rows) for rows in files]
  refine Run.asgComp (ds := filesD ns) (fun d => [(Str.ofString "rows", d)]) (fun _ => true) toldOf rfl rfl (by rfl) (by decide) (by rfl) (by decide) (by (repeat' first | exact Ev.cInt | exact Ev.cStr | exact Ev.cNone | exact Ev.cBool | exact Ev.loc (CP.at (by repeat (first | with_reducible exact List.mem_cons_self | with_reducible refine List.mem_cons_of_mem _ ?_))) | exact Ev.loc (FP.at (by repeat (first | with_reducible exact List.mem_cons_self | with_reducible refine List.mem_cons_of_mem _ ?_))) | exact Ev.cap (fun _ _ x => x.1) (by repeat (first | with_reducible exact List.mem_cons_self | with_reducible refine List.mem_cons_of_mem _ ?_)) | exact Ev.cap (fun _ _ x => x) (by repeat (first | with_reducible exact List.mem_cons_self | with_reducible refine List.mem_cons_of_mem _ ?_)) | exact Ev.cap (fun _ _ x => x.1.1) (by repeat (first | with_reducible exact List.mem_cons_self | with_reducible refine List.mem_cons_of_mem _ ?_)) | refine Ev.list (by first | exact FP.frame | exact CP.frame FP.frame | exact CP.frame (CP.frame FP.frame)) ?_ | exact EvL.nil | refine EvL.cons (by first | exact FP.frame | exact CP.frame FP.frame | exact CP.frame (CP.frame FP.frame)) ?_ ?_)) (Nat.le_of_ble_eq_true rfl) ?_ ?_ ?_ ?_
  · intro C d _
    exact asg_name rfl (by kernel_rfl!) (by kernel_rfl!)
  · intro C d _
    exact EvTs.nil
  · intro C d hm _
    obtain ⟨sv, hsv, rfl⟩ := filesD_mem hm
    rw [toldOf_files]
    refine Ev.callX (CP.frame FP.frame) B X T (by rfl) (by decide) (by decide) (flisting (rowsOf ns sv) (listS ns sv) (by have := rowsOf_len ns sv; omega) (ok.nm sv) (ok.sort sv hsv)) (EvL.cons (CP.frame FP.frame) (by (repeat' first | exact Ev.cInt | exact Ev.cStr | exact Ev.cNone | exact Ev.cBool | exact Ev.loc (CP.at (by repeat (first | with_reducible exact List.mem_cons_self | with_reducible refine List.mem_cons_of_mem _ ?_))) | exact Ev.loc (FP.at (by repeat (first | with_reducible exact List.mem_cons_self | with_reducible refine List.mem_cons_of_mem _ ?_))) | exact Ev.cap (fun _ _ x => x.1) (by repeat (first | with_reducible exact List.mem_cons_self | with_reducible refine List.mem_cons_of_mem _ ?_)) | exact Ev.cap (fun _ _ x => x) (by repeat (first | with_reducible exact List.mem_cons_self | with_reducible refine List.mem_cons_of_mem _ ?_)) | exact Ev.cap (fun _ _ x => x.1.1) (by repeat (first | with_reducible exact List.mem_cons_self | with_reducible refine List.mem_cons_of_mem _ ?_)) | refine Ev.list (by first | exact FP.frame | exact CP.frame FP.frame | exact CP.frame (CP.frame FP.frame)) ?_ | exact EvL.nil | refine EvL.cons (by first | exact FP.frame | exact CP.frame FP.frame | exact CP.frame (CP.frame FP.frame)) ?_ ?_)) EvL.nil)
  rw [filesD_map toldOf toldD toldOf_files]
  -- if [heard ..] != [..]: return False
  have hH : ∀ sv, sv = 0 ∨ sv = 1 → (rowsOf ns sv).map heardD = (rowsOf ns sv).map expD := ok.heard
  refine Run.ifF ?heard ?_
  case heard =>
    refine EvT.cmp (d₁ := .list (heardX ns)) (d₂ := .list (heardX ns)) FP.frame ?c1 ?c2 (ne_same ?okb (by show 4 + 3 + 64 < cLine; decide))
    case c1 =>
      have e : ([toldD (rowsOf ns 0), toldD (rowsOf ns 1)].filter fun _ => true).map (atD 1) = heardX ns := by
        show [_, _] = [_, _]
        rw [heardOf_told, heardOf_told, hH 0 (.inl rfl), hH 1 (.inr rfl)]
      rw [← e]
      refine Ev.comp (h₀ := h₀) (fun d => [(Str.ofString "rows", atD 0 d), (Str.ofString "heard", atD 1 d)]) (fun _ => true) (atD 1) FP.frame rfl (by rfl) (by decide) (by rfl) (by decide) (by (repeat' first | exact Ev.cInt | exact Ev.cStr | exact Ev.cNone | exact Ev.cBool | exact Ev.loc (CP.at (by repeat (first | with_reducible exact List.mem_cons_self | with_reducible refine List.mem_cons_of_mem _ ?_))) | exact Ev.loc (FP.at (by repeat (first | with_reducible exact List.mem_cons_self | with_reducible refine List.mem_cons_of_mem _ ?_))) | exact Ev.cap (fun _ _ x => x.1) (by repeat (first | with_reducible exact List.mem_cons_self | with_reducible refine List.mem_cons_of_mem _ ?_)) | exact Ev.cap (fun _ _ x => x) (by repeat (first | with_reducible exact List.mem_cons_self | with_reducible refine List.mem_cons_of_mem _ ?_)) | exact Ev.cap (fun _ _ x => x.1.1) (by repeat (first | with_reducible exact List.mem_cons_self | with_reducible refine List.mem_cons_of_mem _ ?_)) | refine Ev.list (by first | exact FP.frame | exact CP.frame FP.frame | exact CP.frame (CP.frame FP.frame)) ?_ | exact EvL.nil | refine EvL.cons (by first | exact FP.frame | exact CP.frame FP.frame | exact CP.frame (CP.frame FP.frame)) ?_ ?_)) (Nat.le_of_ble_eq_true rfl) ?_ ?_ ?_
      · intro C d hm
        obtain ⟨rows, rfl⟩ : ∃ rows, d = toldD rows := by
          simp only [List.mem_cons, List.not_mem_nil, or_false] at hm
          rcases hm with rfl | rfl <;> exact ⟨_, rfl⟩
        exact asg_tuple (xs := [(Str.ofString "rows", _), (Str.ofString "heard", _)]) (ds := [_, _]) rfl rfl (by kernel_rfl!) rfl (by (repeat' first | with_reducible exact List.forall_mem_nil _ | refine List.forall_mem_cons.mpr ⟨?_, ?_⟩ | kernel_rfl!)) (by decide +kernel)
      · intro C d _
        exact EvTs.nil
      · intro C d hm _
        (repeat' first | exact Ev.cInt | exact Ev.cStr | exact Ev.cNone | exact Ev.cBool | exact Ev.loc (CP.at (by repeat (first | with_reducible exact List.mem_cons_self | with_reducible refine List.mem_cons_of_mem _ ?_))) | exact Ev.loc (FP.at (by repeat (first | with_reducible exact List.mem_cons_self | with_reducible refine List.mem_cons_of_mem _ ?_))) | exact Ev.cap (fun _ _ x => x.1) (by repeat (first | with_reducible exact List.mem_cons_self | with_reducible refine List.mem_cons_of_mem _ ?_)) | exact Ev.cap (fun _ _ x => x) (by repeat (first | with_reducible exact List.mem_cons_self | with_reducible refine List.mem_cons_of_mem _ ?_)) | exact Ev.cap (fun _ _ x => x.1.1) (by repeat (first | with_reducible exact List.mem_cons_self | with_reducible refine List.mem_cons_of_mem _ ?_)) | refine Ev.list (by first | exact FP.frame | exact CP.frame FP.frame | exact CP.frame (CP.frame FP.frame)) ?_ | exact EvL.nil | refine EvL.cons (by first | exact FP.frame | exact CP.frame FP.frame | exact CP.frame (CP.frame FP.frame)) ?_ ?_)
    case c2 =>
      have e : ((filesD ns).filter fun _ => true).map expOf = heardX ns := filesD_map expOf (fun rows => .list (rows.map expD)) expOf_files
      rw [← e]
      refine Ev.comp (h₀ := h₀) (fun d => [(Str.ofString "rows", d)]) (fun _ => true) expOf FP.frame rfl (by rfl) (by decide) (by rfl) (by decide) (by (repeat' first | exact Ev.cInt | exact Ev.cStr | exact Ev.cNone | exact Ev.cBool | exact Ev.loc (CP.at (by repeat (first | with_reducible exact List.mem_cons_self | with_reducible refine List.mem_cons_of_mem _ ?_))) | exact Ev.loc (FP.at (by repeat (first | with_reducible exact List.mem_cons_self | with_reducible refine List.mem_cons_of_mem _ ?_))) | exact Ev.cap (fun _ _ x => x.1) (by repeat (first | with_reducible exact List.mem_cons_self | with_reducible refine List.mem_cons_of_mem _ ?_)) | exact Ev.cap (fun _ _ x => x) (by repeat (first | with_reducible exact List.mem_cons_self | with_reducible refine List.mem_cons_of_mem _ ?_)) | exact Ev.cap (fun _ _ x => x.1.1) (by repeat (first | with_reducible exact List.mem_cons_self | with_reducible refine List.mem_cons_of_mem _ ?_)) | refine Ev.list (by first | exact FP.frame | exact CP.frame FP.frame | exact CP.frame (CP.frame FP.frame)) ?_ | exact EvL.nil | refine EvL.cons (by first | exact FP.frame | exact CP.frame FP.frame | exact CP.frame (CP.frame FP.frame)) ?_ ?_)) (Nat.le_of_ble_eq_true rfl) ?_ ?_ ?_
      · intro C d _
        exact asg_name rfl (by kernel_rfl!) (by kernel_rfl!)
      · intro C d _
        exact EvTs.nil
      · intro C d hm _
        obtain ⟨sv, hsv, rfl⟩ := filesD_mem hm
        rw [expOf_files, ← rows_map (rowsOf ns sv) expD]
        refine Ev.comp (h₀ := h₀) (ds := (rowsOf ns sv).map fileD) (fun d => [(Str.ofString "kind", .int (toF d).kind), (Str.ofString "name", .str (toF d).name), (Str.ofString "bits", .int (toF d).bits), (Str.ofString "more", .int (toF d).more)]) (fun _ => true) (fun d => expD (toF d)) (CP.frame FP.frame) rfl (by rfl) (by decide) (by rfl) (by decide) (by (repeat' first | exact Ev.cInt | exact Ev.cStr | exact Ev.cNone | exact Ev.cBool | exact Ev.loc (CP.at (by repeat (first | with_reducible exact List.mem_cons_self | with_reducible refine List.mem_cons_of_mem _ ?_))) | exact Ev.loc (FP.at (by repeat (first | with_reducible exact List.mem_cons_self | with_reducible refine List.mem_cons_of_mem _ ?_))) | exact Ev.cap (fun _ _ x => x.1) (by repeat (first | with_reducible exact List.mem_cons_self | with_reducible refine List.mem_cons_of_mem _ ?_)) | exact Ev.cap (fun _ _ x => x) (by repeat (first | with_reducible exact List.mem_cons_self | with_reducible refine List.mem_cons_of_mem _ ?_)) | exact Ev.cap (fun _ _ x => x.1.1) (by repeat (first | with_reducible exact List.mem_cons_self | with_reducible refine List.mem_cons_of_mem _ ?_)) | refine Ev.list (by first | exact FP.frame | exact CP.frame FP.frame | exact CP.frame (CP.frame FP.frame)) ?_ | exact EvL.nil | refine EvL.cons (by first | exact FP.frame | exact CP.frame FP.frame | exact CP.frame (CP.frame FP.frame)) ?_ ?_)) (by rw [rows_map, List.length_map, sizeLine_eq]; have := rowsOf_len ns sv; omega) ?_ ?_ ?_
        · intro C2 d2 hm2
          obtain ⟨r, _, rfl⟩ := row_mem hm2
          exact asg_tuple (xs := [(Str.ofString "kind", _), (Str.ofString "name", _), (Str.ofString "bits", _), (Str.ofString "more", _)]) (ds := [.int r.kind, .str r.name, .int r.bits, .int r.more]) rfl rfl (by kernel_rfl!) rfl (by (repeat' first | with_reducible exact List.forall_mem_nil _ | refine List.forall_mem_cons.mpr ⟨?_, ?_⟩ | kernel_rfl!)) (by decide +kernel)
        · intro C2 d2 _
          exact EvTs.nil
        · intro C2 d2 hm2 _
          obtain ⟨r, _, rfl⟩ := row_mem hm2
          rw [toF_of]
          unfold expD
          refine Ev.ite (c := r.kind == 6) (CP.frame (CP.frame FP.frame)) (EvT.cmp (CP.frame (CP.frame FP.frame)) (by (repeat' first | exact Ev.cInt | exact Ev.cStr | exact Ev.cNone | exact Ev.cBool | exact Ev.loc (CP.at (by repeat (first | with_reducible exact List.mem_cons_self | with_reducible refine List.mem_cons_of_mem _ ?_))) | exact Ev.loc (FP.at (by repeat (first | with_reducible exact List.mem_cons_self | with_reducible refine List.mem_cons_of_mem _ ?_))) | exact Ev.cap (fun _ _ x => x.1) (by repeat (first | with_reducible exact List.mem_cons_self | with_reducible refine List.mem_cons_of_mem _ ?_)) | exact Ev.cap (fun _ _ x => x) (by repeat (first | with_reducible exact List.mem_cons_self | with_reducible refine List.mem_cons_of_mem _ ?_)) | exact Ev.cap (fun _ _ x => x.1.1) (by repeat (first | with_reducible exact List.mem_cons_self | with_reducible refine List.mem_cons_of_mem _ ?_)) | refine Ev.list (by first | exact FP.frame | exact CP.frame FP.frame | exact CP.frame (CP.frame FP.frame)) ?_ | exact EvL.nil | refine EvL.cons (by first | exact FP.frame | exact CP.frame FP.frame | exact CP.frame (CP.frame FP.frame)) ?_ ?_)) Ev.cInt eq_iD) (fun h6 => ?_) (fun h6 => ?_)
          · rw [if_pos (by simpa using h6)]
            (repeat' first | exact Ev.cInt | exact Ev.cStr | exact Ev.cNone | exact Ev.cBool | exact Ev.loc (CP.at (by repeat (first | with_reducible exact List.mem_cons_self | with_reducible refine List.mem_cons_of_mem _ ?_))) | exact Ev.loc (FP.at (by repeat (first | with_reducible exact List.mem_cons_self | with_reducible refine List.mem_cons_of_mem _ ?_))) | exact Ev.cap (fun _ _ x => x.1) (by repeat (first | with_reducible exact List.mem_cons_self | with_reducible refine List.mem_cons_of_mem _ ?_)) | exact Ev.cap (fun _ _ x => x) (by repeat (first | with_reducible exact List.mem_cons_self | with_reducible refine List.mem_cons_of_mem _ ?_)) | exact Ev.cap (fun _ _ x => x.1.1) (by repeat (first | with_reducible exact List.mem_cons_self | with_reducible refine List.mem_cons_of_mem _ ?_)) | refine Ev.list (by first | exact FP.frame | exact CP.frame FP.frame | exact CP.frame (CP.frame FP.frame)) ?_ | exact EvL.nil | refine EvL.cons (by first | exact FP.frame | exact CP.frame FP.frame | exact CP.frame (CP.frame FP.frame)) ?_ ?_)
          · rw [if_neg (by simpa using h6)]
            refine Ev.list (CP.frame (CP.frame FP.frame)) (.cons (CP.frame (CP.frame FP.frame)) Ev.cStr (.cons (CP.frame (CP.frame FP.frame)) ?_ .nil))
            refine Ev.ite (c := r.kind == 5) (CP.frame (CP.frame FP.frame)) (EvT.cmp (CP.frame (CP.frame FP.frame)) (by (repeat' first | exact Ev.cInt | exact Ev.cStr | exact Ev.cNone | exact Ev.cBool | exact Ev.loc (CP.at (by repeat (first | with_reducible exact List.mem_cons_self | with_reducible refine List.mem_cons_of_mem _ ?_))) | exact Ev.loc (FP.at (by repeat (first | with_reducible exact List.mem_cons_self | with_reducible refine List.mem_cons_of_mem _ ?_))) | exact Ev.cap (fun _ _ x => x.1) (by repeat (first | with_reducible exact List.mem_cons_self | with_reducible refine List.mem_cons_of_mem _ ?_)) | exact Ev.cap (fun _ _ x => x) (by repeat (first | with_reducible exact List.mem_cons_self | with_reducible refine List.mem_cons_of_mem _ ?_)) | exact Ev.cap (fun _ _ x => x.1.1) (by repeat (first | with_reducible exact List.mem_cons_self | with_reducible refine List.mem_cons_of_mem _ ?_)) | refine Ev.list (by first | exact FP.frame | exact CP.frame FP.frame | exact CP.frame (CP.frame FP.frame)) ?_ | exact EvL.nil | refine EvL.cons (by first | exact FP.frame | exact CP.frame FP.frame | exact CP.frame (CP.frame FP.frame)) ?_ ?_)) Ev.cInt eq_iD) (fun h5 => ?_) (fun h5 => ?_)
            · rw [if_pos (by simpa using h5)]
              exact Ev.cStr
            · rw [if_neg (by simpa using h5)]
              (repeat' first | exact Ev.cInt | exact Ev.cStr | exact Ev.cNone | exact Ev.cBool | exact Ev.loc (CP.at (by repeat (first | with_reducible exact List.mem_cons_self | with_reducible refine List.mem_cons_of_mem _ ?_))) | exact Ev.loc (FP.at (by repeat (first | with_reducible exact List.mem_cons_self | with_reducible refine List.mem_cons_of_mem _ ?_))) | exact Ev.cap (fun _ _ x => x.1) (by repeat (first | with_reducible exact List.mem_cons_self | with_reducible refine List.mem_cons_of_mem _ ?_)) | exact Ev.cap (fun _ _ x => x) (by repeat (first | with_reducible exact List.mem_cons_self | with_reducible refine List.mem_cons_of_mem _ ?_)) | exact Ev.cap (fun _ _ x => x.1.1) (by repeat (first | with_reducible exact List.mem_cons_self | with_reducible refine List.mem_cons_of_mem _ ?_)) | refine Ev.list (by first | exact FP.frame | exact CP.frame FP.frame | exact CP.frame (CP.frame FP.frame)) ?_ | exact EvL.nil | refine EvL.cons (by first | exact FP.frame | exact CP.frame FP.frame | exact CP.frame (CP.frame FP.frame)) ?_ ?_)
    case okb =>
      have h0 := ok.hok 0 (.inl rfl)
      have h1 := ok.hok 1 (.inr rfl)
      show List.all [_, _] (okB 8) = true
      simp [h0, h1]
  -- sides = [..]
  refine Run.asgComp (ds := filesD ns) (fun d => [(Str.ofString "rows", d)]) (fun _ => true) sidesOf rfl rfl (by rfl) (by decide) (by rfl) (by decide) (by (repeat' first | exact Ev.cInt | exact Ev.cStr | exact Ev.cNone | exact Ev.cBool | exact Ev.loc (CP.at (by repeat (first | with_reducible exact List.mem_cons_self | with_reducible refine List.mem_cons_of_mem _ ?_))) | exact Ev.loc (FP.at (by repeat (first | with_reducible exact List.mem_cons_self | with_reducible refine List.mem_cons_of_mem _ ?_))) | exact Ev.cap (fun _ _ x => x.1) (by repeat (first | with_reducible exact List.mem_cons_self | with_reducible refine List.mem_cons_of_mem _ ?_)) | exact Ev.cap (fun _ _ x => x) (by repeat (first | with_reducible exact List.mem_cons_self | with_reducible refine List.mem_cons_of_mem _ ?_)) | exact Ev.cap (fun _ _ x => x.1.1) (by repeat (first | with_reducible exact List.mem_cons_self | with_reducible refine List.mem_cons_of_mem _ ?_)) | refine Ev.list (by first | exact FP.frame | exact CP.frame FP.frame | exact CP.frame (CP.frame FP.frame)) ?_ | exact EvL.nil | refine EvL.cons (by first | exact FP.frame | exact CP.frame FP.frame | exact CP.frame (CP.frame FP.frame)) ?_ ?_)) (Nat.le_of_ble_eq_true rfl) ?_ ?_ ?_ ?_
  · intro C d _
    exact asg_name rfl (by kernel_rfl!) (by kernel_rfl!)
  · intro C d _
    exact EvTs.nil
  · intro C d hm _
    obtain ⟨sv, hsv, rfl⟩ := filesD_mem hm
    rw [sidesOf_files, ← side_map]
    refine Ev.comp (h₀ := h₀) (ds := (rowsOf ns sv).map fileD) (fun d => [(Str.ofString "kind", .int (toF d).kind), (Str.ofString "name", .str (toF d).name), (Str.ofString "bits", .int (toF d).bits), (Str.ofString "more", .int (toF d).more)]) (fun d => decide ((toF d).kind < 5)) (fun d => rowOf (sideRow (toF d))) (CP.frame FP.frame) rfl (by rfl) (by decide) (by rfl) (by decide) (by (repeat' first | exact Ev.cInt | exact Ev.cStr | exact Ev.cNone | exact Ev.cBool | exact Ev.loc (CP.at (by repeat (first | with_reducible exact List.mem_cons_self | with_reducible refine List.mem_cons_of_mem _ ?_))) | exact Ev.loc (FP.at (by repeat (first | with_reducible exact List.mem_cons_self | with_reducible refine List.mem_cons_of_mem _ ?_))) | exact Ev.cap (fun _ _ x => x.1) (by repeat (first | with_reducible exact List.mem_cons_self | with_reducible refine List.mem_cons_of_mem _ ?_)) | exact Ev.cap (fun _ _ x => x) (by repeat (first | with_reducible exact List.mem_cons_self | with_reducible refine List.mem_cons_of_mem _ ?_)) | exact Ev.cap (fun _ _ x => x.1.1) (by repeat (first | with_reducible exact List.mem_cons_self | with_reducible refine List.mem_cons_of_mem _ ?_)) | refine Ev.list (by first | exact FP.frame | exact CP.frame FP.frame | exact CP.frame (CP.frame FP.frame)) ?_ | exact EvL.nil | refine EvL.cons (by first | exact FP.frame | exact CP.frame FP.frame | exact CP.frame (CP.frame FP.frame)) ?_ ?_)) (by rw [side_map, List.length_map, sizeLine_eq]; have := rowsOf_len ns sv; have := sideOf_len (rowsOf ns sv); omega) ?_ ?_ ?_
    · intro C2 d2 hm2
      obtain ⟨r, _, rfl⟩ := row_mem hm2
      exact asg_tuple (xs := [(Str.ofString "kind", _), (Str.ofString "name", _), (Str.ofString "bits", _), (Str.ofString "more", _)]) (ds := [.int r.kind, .str r.name, .int r.bits, .int r.more]) rfl rfl (by kernel_rfl!) rfl (by (repeat' first | with_reducible exact List.forall_mem_nil _ | refine List.forall_mem_cons.mpr ⟨?_, ?_⟩ | kernel_rfl!)) (by decide +kernel)
    · intro C2 d2 hm2
      exact EvTs.one (EvT.cmp (CP.frame (CP.frame FP.frame)) (by (repeat' first | exact Ev.cInt | exact Ev.cStr | exact Ev.cNone | exact Ev.cBool | exact Ev.loc (CP.at (by repeat (first | with_reducible exact List.mem_cons_self | with_reducible refine List.mem_cons_of_mem _ ?_))) | exact Ev.loc (FP.at (by repeat (first | with_reducible exact List.mem_cons_self | with_reducible refine List.mem_cons_of_mem _ ?_))) | exact Ev.cap (fun _ _ x => x.1) (by repeat (first | with_reducible exact List.mem_cons_self | with_reducible refine List.mem_cons_of_mem _ ?_)) | exact Ev.cap (fun _ _ x => x) (by repeat (first | with_reducible exact List.mem_cons_self | with_reducible refine List.mem_cons_of_mem _ ?_)) | exact Ev.cap (fun _ _ x => x.1.1) (by repeat (first | with_reducible exact List.mem_cons_self | with_reducible refine List.mem_cons_of_mem _ ?_)) | refine Ev.list (by first | exact FP.frame | exact CP.frame FP.frame | exact CP.frame (CP.frame FP.frame)) ?_ | exact EvL.nil | refine EvL.cons (by first | exact FP.frame | exact CP.frame FP.frame | exact CP.frame (CP.frame FP.frame)) ?_ ?_)) Ev.cInt lt_iD)
    · intro C2 d2 hm2 _
      obtain ⟨r, hr, rfl⟩ := row_mem hm2
      rw [toF_of]
      have hb := rows_bits hr
      show Ev _ _ _ _ _ _ _ (.list [.str r.name, .str (if 2 < r.kind then Str.ofString "" else sgText r.bits 3)])
      refine Ev.list (CP.frame (CP.frame FP.frame)) (.cons (CP.frame (CP.frame FP.frame)) (by (repeat' first | exact Ev.cInt | exact Ev.cStr | exact Ev.cNone | exact Ev.cBool | exact Ev.loc (CP.at (by repeat (first | with_reducible exact List.mem_cons_self | with_reducible refine List.mem_cons_of_mem _ ?_))) | exact Ev.loc (FP.at (by repeat (first | with_reducible exact List.mem_cons_self | with_reducible refine List.mem_cons_of_mem _ ?_))) | exact Ev.cap (fun _ _ x => x.1) (by repeat (first | with_reducible exact List.mem_cons_self | with_reducible refine List.mem_cons_of_mem _ ?_)) | exact Ev.cap (fun _ _ x => x) (by repeat (first | with_reducible exact List.mem_cons_self | with_reducible refine List.mem_cons_of_mem _ ?_)) | exact Ev.cap (fun _ _ x => x.1.1) (by repeat (first | with_reducible exact List.mem_cons_self | with_reducible refine List.mem_cons_of_mem _ ?_)) | refine Ev.list (by first | exact FP.frame | exact CP.frame FP.frame | exact CP.frame (CP.frame FP.frame)) ?_ | exact EvL.nil | refine EvL.cons (by first | exact FP.frame | exact CP.frame FP.frame | exact CP.frame (CP.frame FP.frame)) ?_ ?_)) (.cons (CP.frame (CP.frame FP.frame)) ?_ .nil))
      refine Ev.ite (c := decide (2 < r.kind)) (CP.frame (CP.frame FP.frame)) (EvT.cmp (CP.frame (CP.frame FP.frame)) (by (repeat' first | exact Ev.cInt | exact Ev.cStr | exact Ev.cNone | exact Ev.cBool | exact Ev.loc (CP.at (by repeat (first | with_reducible exact List.mem_cons_self | with_reducible refine List.mem_cons_of_mem _ ?_))) | exact Ev.loc (FP.at (by repeat (first | with_reducible exact List.mem_cons_self | with_reducible refine List.mem_cons_of_mem _ ?_))) | exact Ev.cap (fun _ _ x => x.1) (by repeat (first | with_reducible exact List.mem_cons_self | with_reducible refine List.mem_cons_of_mem _ ?_)) | exact Ev.cap (fun _ _ x => x) (by repeat (first | with_reducible exact List.mem_cons_self | with_reducible refine List.mem_cons_of_mem _ ?_)) | exact Ev.cap (fun _ _ x => x.1.1) (by repeat (first | with_reducible exact List.mem_cons_self | with_reducible refine List.mem_cons_of_mem _ ?_)) | refine Ev.list (by first | exact FP.frame | exact CP.frame FP.frame | exact CP.frame (CP.frame FP.frame)) ?_ | exact EvL.nil | refine EvL.cons (by first | exact FP.frame | exact CP.frame FP.frame | exact CP.frame (CP.frame FP.frame)) ?_ ?_)) Ev.cInt gt_iD) (fun h2 => ?_) (fun h2 => ?_)
      · rw [if_pos (by simpa using h2)]
        exact Ev.cStr
      · rw [if_neg (by simpa using h2)]
        refine Ev.call (CP.frame (CP.frame FP.frame)) B X T (by rfl) (by decide) (by decide) (fsig hb.1 hb.2) (EvL.cons (CP.frame (CP.frame FP.frame)) (by (repeat' first | exact Ev.cInt | exact Ev.cStr | exact Ev.cNone | exact Ev.cBool | exact Ev.loc (CP.at (by repeat (first | with_reducible exact List.mem_cons_self | with_reducible refine List.mem_cons_of_mem _ ?_))) | exact Ev.loc (FP.at (by repeat (first | with_reducible exact List.mem_cons_self | with_reducible refine List.mem_cons_of_mem _ ?_))) | exact Ev.cap (fun _ _ x => x.1) (by repeat (first | with_reducible exact List.mem_cons_self | with_reducible refine List.mem_cons_of_mem _ ?_)) | exact Ev.cap (fun _ _ x => x) (by repeat (first | with_reducible exact List.mem_cons_self | with_reducible refine List.mem_cons_of_mem _ ?_)) | exact Ev.cap (fun _ _ x => x.1.1) (by repeat (first | with_reducible exact List.mem_cons_self | with_reducible refine List.mem_cons_of_mem _ ?_)) | refine Ev.list (by first | exact FP.frame | exact CP.frame FP.frame | exact CP.frame (CP.frame FP.frame)) ?_ | exact EvL.nil | refine EvL.cons (by first | exact FP.frame | exact CP.frame FP.frame | exact CP.frame (CP.frame FP.frame)) ?_ ?_)) EvL.nil)
  rw [filesD_map sidesOf (fun rows => .list ((sideOf rows).map rowOf)) sidesOf_files]
  -- for name in [..]
  refine Run.forCell (ds := namesS.map Dat.str) (lvJ := lawLv ns) rfl rfl (by (repeat' first | exact Ev.cInt | exact Ev.cStr | exact Ev.cNone | exact Ev.cBool | exact Ev.loc (CP.at (by repeat (first | with_reducible exact List.mem_cons_self | with_reducible refine List.mem_cons_of_mem _ ?_))) | exact Ev.loc (FP.at (by repeat (first | with_reducible exact List.mem_cons_self | with_reducible refine List.mem_cons_of_mem _ ?_))) | exact Ev.cap (fun _ _ x => x.1) (by repeat (first | with_reducible exact List.mem_cons_self | with_reducible refine List.mem_cons_of_mem _ ?_)) | exact Ev.cap (fun _ _ x => x) (by repeat (first | with_reducible exact List.mem_cons_self | with_reducible refine List.mem_cons_of_mem _ ?_)) | exact Ev.cap (fun _ _ x => x.1.1) (by repeat (first | with_reducible exact List.mem_cons_self | with_reducible refine List.mem_cons_of_mem _ ?_)) | refine Ev.list (by first | exact FP.frame | exact CP.frame FP.frame | exact CP.frame (CP.frame FP.frame)) ?_ | exact EvL.nil | refine EvL.cons (by first | exact FP.frame | exact CP.frame FP.frame | exact CP.frame (CP.frame FP.frame)) ?_ ?_)) (fun p hp => ?_) (.head _) (fun G₁ i d E' hdi => ?body) ?after (by kernel_rfl!) (by kernel_rfl!) (by kernel_rfl!) (by kernel_rfl!)
  · simp only [lawLv, List.mem_cons, List.not_mem_nil, or_false] at hp ⊢
    rcases hp with rfl | rfl | rfl | rfl <;> simp [dueOf, ownOf]
  case body =>
    rw [List.getElem?_map] at hdi
    obtain ⟨n, hn, rfl⟩ : ∃ n, namesS[i]? = some n ∧ Dat.str n = d := by
      cases q : namesS[i]? with
      | none => (first | exact noBoth q hdi | exact noBoth hdi q | exact (noBoth q hdi).elim | exact (noBoth hdi q).elim | (rw [q] at hdi; cases hdi))
      | some n => rw [q] at hdi; exact ⟨n, rfl, Option.some.inj hdi⟩
    change Run _ _ _ _ _ (FP h₀ L G₁ _ [(Str.ofString "sides", .list [.list ((sideOf (rowsOf ns 0)).map rowOf), .list ((sideOf (rowsOf ns 1)).map rowOf)]), (Str.ofString "due", .list (dueOf (sideOf (rowsOf ns 0)) (sideOf (rowsOf ns 1)) i)),
      (Str.ofString "own", .list [.list ((ownOf (sideOf (rowsOf ns 0)) i).map rowOf), .list ((ownOf (sideOf (rowsOf ns 1)) i).map rowOf)]), (Str.ofString "told", .list [toldD (rowsOf ns 0), toldD (rowsOf ns 1)])] _) _ _ _
    have hs0 : (sideOf (rowsOf ns 0)).length ≤ 18 := Nat.le_trans (sideOf_len _) (rowsOf_len _ _)
    have hs1 : (sideOf (rowsOf ns 1)).length ≤ 18 := Nat.le_trans (sideOf_len _) (rowsOf_len _ _)
    have hL0 := ownOf_succ (sideOf (rowsOf ns 0)) hn
    have hL1 := ownOf_succ (sideOf (rowsOf ns 1)) hn
    have hDu := dueOf_succ (sideOf (rowsOf ns 0)) (sideOf (rowsOf ns 1)) hn
    have hdl := dueOf_len (sideOf (rowsOf ns 0)) (sideOf (rowsOf ns 1)) i
    have hol0 := ownOf_len (sideOf (rowsOf ns 0)) i
    have hol1 := ownOf_len (sideOf (rowsOf ns 1)) i
    have lawEnd : lawLv ns (i + 1) = [(Str.ofString "sides", .list [.list ((sideOf (rowsOf ns 0)).map rowOf), .list ((sideOf (rowsOf ns 1)).map rowOf)]), (Str.ofString "due", .list (dueOf (sideOf (rowsOf ns 0)) (sideOf (rowsOf ns 1)) (i + 1))),
      (Str.ofString "own", .list [.list ((ownOf (sideOf (rowsOf ns 0)) (i + 1)).map rowOf), .list ((ownOf (sideOf (rowsOf ns 1)) (i + 1)).map rowOf)]), (Str.ofString "told", .list [toldD (rowsOf ns 0), toldD (rowsOf ns 1)])] := rfl
    rw [lawEnd, hL0, hL1, hDu]
    clear hL0 hL1 hDu lawEnd
    unfold lastS
    generalize sideOf (rowsOf ns 0) = S0 at *
    generalize sideOf (rowsOf ns 1) = S1 at *
    -- pair = [..]
    refine Run.asgComp (ds := [.list (S0.map rowOf), .list (S1.map rowOf)]) (fun d => [(Str.ofString "side", d)]) (fun _ => true) (fun d => optD (signsFor (sideRows d) n).getLast?) rfl rfl (by rfl) (by decide) (by rfl) (by decide) (by (repeat' first | exact Ev.cInt | exact Ev.cStr | exact Ev.cNone | exact Ev.cBool | exact Ev.loc (CP.at (by repeat (first | with_reducible exact List.mem_cons_self | with_reducible refine List.mem_cons_of_mem _ ?_))) | exact Ev.loc (FP.at (by repeat (first | with_reducible exact List.mem_cons_self | with_reducible refine List.mem_cons_of_mem _ ?_))) | exact Ev.cap (fun _ _ x => x.1) (by repeat (first | with_reducible exact List.mem_cons_self | with_reducible refine List.mem_cons_of_mem _ ?_)) | exact Ev.cap (fun _ _ x => x) (by repeat (first | with_reducible exact List.mem_cons_self | with_reducible refine List.mem_cons_of_mem _ ?_)) | exact Ev.cap (fun _ _ x => x.1.1) (by repeat (first | with_reducible exact List.mem_cons_self | with_reducible refine List.mem_cons_of_mem _ ?_)) | refine Ev.list (by first | exact FP.frame | exact CP.frame FP.frame | exact CP.frame (CP.frame FP.frame)) ?_ | exact EvL.nil | refine EvL.cons (by first | exact FP.frame | exact CP.frame FP.frame | exact CP.frame (CP.frame FP.frame)) ?_ ?_)) (Nat.le_of_ble_eq_true rfl) ?_ ?_ ?_ ?_
    · intro C d _
      exact asg_name rfl (by kernel_rfl!) (by kernel_rfl!)
    · intro C d _
      exact EvTs.nil
    · intro C d hm _
      obtain ⟨Sd, hSd, rfl⟩ : ∃ Sd : List Row, Sd.length ≤ 18 ∧ d = .list (Sd.map rowOf) := by
        simp only [List.mem_cons, List.not_mem_nil, or_false] at hm
        rcases hm with rfl | rfl
        · exact ⟨S0, hs0, rfl⟩
        · exact ⟨S1, hs1, rfl⟩
      rw [sideRows_of]
      obtain ⟨init, hinit⟩ := last_split (signsFor Sd n)
      refine Ev.last (ds := init) (CP.frame FP.frame) ?_ (Ev.neg (CP.frame FP.frame) Ev.cInt)
      rw [← hinit]
      have e : Dat.none :: (signsFor Sd n).map Dat.str = [Dat.none] ++ (((Sd.map rowOf).filter fun d => (toRow d).1 == n).map fun d => Dat.str (toRow d).2) := by rw [signs_map]; rfl
      rw [e]
      refine Ev.bin (CP.frame FP.frame) (Ev.list (CP.frame FP.frame) (EvL.cons (CP.frame FP.frame) Ev.cNone EvL.nil)) (Ev.comp (h₀ := h₀) (ds := Sd.map rowOf) (fun d => [(Str.ofString "other", .str (toRow d).1), (Str.ofString "signs", .str (toRow d).2)]) (fun d => (toRow d).1 == n) (fun d => .str (toRow d).2) (CP.frame FP.frame) rfl (by rfl) (by decide) (by rfl) (by decide) (by (repeat' first | exact Ev.cInt | exact Ev.cStr | exact Ev.cNone | exact Ev.cBool | exact Ev.loc (CP.at (by repeat (first | with_reducible exact List.mem_cons_self | with_reducible refine List.mem_cons_of_mem _ ?_))) | exact Ev.loc (FP.at (by repeat (first | with_reducible exact List.mem_cons_self | with_reducible refine List.mem_cons_of_mem _ ?_))) | exact Ev.cap (fun _ _ x => x.1) (by repeat (first | with_reducible exact List.mem_cons_self | with_reducible refine List.mem_cons_of_mem _ ?_)) | exact Ev.cap (fun _ _ x => x) (by repeat (first | with_reducible exact List.mem_cons_self | with_reducible refine List.mem_cons_of_mem _ ?_)) | exact Ev.cap (fun _ _ x => x.1.1) (by repeat (first | with_reducible exact List.mem_cons_self | with_reducible refine List.mem_cons_of_mem _ ?_)) | refine Ev.list (by first | exact FP.frame | exact CP.frame FP.frame | exact CP.frame (CP.frame FP.frame)) ?_ | exact EvL.nil | refine EvL.cons (by first | exact FP.frame | exact CP.frame FP.frame | exact CP.frame (CP.frame FP.frame)) ?_ ?_)) ?_ ?_ ?_ ?_) (add_lD ?_)
      · rw [signs_map, List.length_map, sizeLine_eq]
        have := signs_len Sd n
        omega
      · intro C2 d2 hm2
        obtain ⟨r, _, rfl⟩ := List.mem_map.mp hm2
        exact asg_tuple (xs := [(Str.ofString "other", _), (Str.ofString "signs", _)]) (ds := [.str r.1, .str r.2]) rfl rfl (by kernel_rfl!) rfl (by (repeat' first | with_reducible exact List.forall_mem_nil _ | refine List.forall_mem_cons.mpr ⟨?_, ?_⟩ | kernel_rfl!)) (by decide +kernel)
      · intro C2 d2 hm2
        exact EvTs.one (EvT.cmp (CP.frame (CP.frame FP.frame)) (by (repeat' first | exact Ev.cInt | exact Ev.cStr | exact Ev.cNone | exact Ev.cBool | exact Ev.loc (CP.at (by repeat (first | with_reducible exact List.mem_cons_self | with_reducible refine List.mem_cons_of_mem _ ?_))) | exact Ev.loc (FP.at (by repeat (first | with_reducible exact List.mem_cons_self | with_reducible refine List.mem_cons_of_mem _ ?_))) | exact Ev.cap (fun _ _ x => x.1) (by repeat (first | with_reducible exact List.mem_cons_self | with_reducible refine List.mem_cons_of_mem _ ?_)) | exact Ev.cap (fun _ _ x => x) (by repeat (first | with_reducible exact List.mem_cons_self | with_reducible refine List.mem_cons_of_mem _ ?_)) | exact Ev.cap (fun _ _ x => x.1.1) (by repeat (first | with_reducible exact List.mem_cons_self | with_reducible refine List.mem_cons_of_mem _ ?_)) | refine Ev.list (by first | exact FP.frame | exact CP.frame FP.frame | exact CP.frame (CP.frame FP.frame)) ?_ | exact EvL.nil | refine EvL.cons (by first | exact FP.frame | exact CP.frame FP.frame | exact CP.frame (CP.frame FP.frame)) ?_ ?_)) (by (repeat' first | exact Ev.cInt | exact Ev.cStr | exact Ev.cNone | exact Ev.cBool | exact Ev.loc (CP.at (by repeat (first | with_reducible exact List.mem_cons_self | with_reducible refine List.mem_cons_of_mem _ ?_))) | exact Ev.loc (FP.at (by repeat (first | with_reducible exact List.mem_cons_self | with_reducible refine List.mem_cons_of_mem _ ?_))) | exact Ev.cap (fun _ _ x => x.1) (by repeat (first | with_reducible exact List.mem_cons_self | with_reducible refine List.mem_cons_of_mem _ ?_)) | exact Ev.cap (fun _ _ x => x) (by repeat (first | with_reducible exact List.mem_cons_self | with_reducible refine List.mem_cons_of_mem _ ?_)) | exact Ev.cap (fun _ _ x => x.1.1) (by repeat (first | with_reducible exact List.mem_cons_self | with_reducible refine List.mem_cons_of_mem _ ?_)) | refine Ev.list (by first | exact FP.frame | exact CP.frame FP.frame | exact CP.frame (CP.frame FP.frame)) ?_ | exact EvL.nil | refine EvL.cons (by first | exact FP.frame | exact CP.frame FP.frame | exact CP.frame (CP.frame FP.frame)) ?_ ?_)) eq_sD)
      · intro C2 d2 hm2 _
        (repeat' first | exact Ev.cInt | exact Ev.cStr | exact Ev.cNone | exact Ev.cBool | exact Ev.loc (CP.at (by repeat (first | with_reducible exact List.mem_cons_self | with_reducible refine List.mem_cons_of_mem _ ?_))) | exact Ev.loc (FP.at (by repeat (first | with_reducible exact List.mem_cons_self | with_reducible refine List.mem_cons_of_mem _ ?_))) | exact Ev.cap (fun _ _ x => x.1) (by repeat (first | with_reducible exact List.mem_cons_self | with_reducible refine List.mem_cons_of_mem _ ?_)) | exact Ev.cap (fun _ _ x => x) (by repeat (first | with_reducible exact List.mem_cons_self | with_reducible refine List.mem_cons_of_mem _ ?_)) | exact Ev.cap (fun _ _ x => x.1.1) (by repeat (first | with_reducible exact List.mem_cons_self | with_reducible refine List.mem_cons_of_mem _ ?_)) | refine Ev.list (by first | exact FP.frame | exact CP.frame FP.frame | exact CP.frame (CP.frame FP.frame)) ?_ | exact EvL.nil | refine EvL.cons (by first | exact FP.frame | exact CP.frame FP.frame | exact CP.frame (CP.frame FP.frame)) ?_ ?_)
      · rw [signs_map, List.length_map, sizeLine_eq]
        have := signs_len Sd n
        simp only [List.length_cons, List.length_nil]
        omega
    have epair : (([.list (S0.map rowOf), .list (S1.map rowOf)] : List Dat).filter fun _ => true).map (fun d => optD (signsFor (sideRows d) n).getLast?) = [optD (signsFor S0 n).getLast?, optD (signsFor S1 n).getLast?] := by
      show [optD (signsFor (sideRows _) n).getLast?, optD (signsFor (sideRows _) n).getLast?] = _
      rw [sideRows_of, sideRows_of]
    rw [epair]
    clear epair
    generalize (signsFor S0 n).getLast? = o0 at *
    generalize (signsFor S1 n).getLast? = o1 at *
    -- due = due + (..)
    refine Run.asgR (x := Str.ofString "due") (d := .list (dueOf S0 S1 i ++ (if o0 = o1 then [] else [.list [.str n, optD o0, optD o1]]))) (lvr := [(Str.ofString "pair", .list [optD o0, optD o1]), (Str.ofString "sides", .list [.list (S0.map rowOf), .list (S1.map rowOf)]), (Str.ofString "own", .list [.list ((ownOf S0 i).map rowOf), .list ((ownOf S1 i).map rowOf)]), (Str.ofString "told", .list [toldD (rowsOf ns 0), toldD (rowsOf ns 1)])]) rfl ?due ?sub1 ?_
    case sub1 =>
      (repeat' first | with_reducible exact List.forall_mem_nil _ | with_reducible exact List.mem_cons_self | refine List.forall_mem_cons.mpr ⟨?_, ?_⟩ | with_reducible refine List.mem_cons_of_mem _ ?_)
    case due =>
      refine Ev.bin FP.frame (by (repeat' first | exact Ev.cInt | exact Ev.cStr | exact Ev.cNone | exact Ev.cBool | exact Ev.loc (CP.at (by repeat (first | with_reducible exact List.mem_cons_self | with_reducible refine List.mem_cons_of_mem _ ?_))) | exact Ev.loc (FP.at (by repeat (first | with_reducible exact List.mem_cons_self | with_reducible refine List.mem_cons_of_mem _ ?_))) | exact Ev.cap (fun _ _ x => x.1) (by repeat (first | with_reducible exact List.mem_cons_self | with_reducible refine List.mem_cons_of_mem _ ?_)) | exact Ev.cap (fun _ _ x => x) (by repeat (first | with_reducible exact List.mem_cons_self | with_reducible refine List.mem_cons_of_mem _ ?_)) | exact Ev.cap (fun _ _ x => x.1.1) (by repeat (first | with_reducible exact List.mem_cons_self | with_reducible refine List.mem_cons_of_mem _ ?_)) | refine Ev.list (by first | exact FP.frame | exact CP.frame FP.frame | exact CP.frame (CP.frame FP.frame)) ?_ | exact EvL.nil | refine EvL.cons (by first | exact FP.frame | exact CP.frame FP.frame | exact CP.frame (CP.frame FP.frame)) ?_ ?_)) (d₂ := .list (if o0 = o1 then [] else [.list [.str n, optD o0, optD o1]])) ?_ (add_lD (by rw [sizeLine_eq]; split <;> simp <;> omega))
      refine Ev.ite (c := !decide (o0 = o1)) FP.frame (EvT.cmp FP.frame (Ev.item FP.frame (by (repeat' first | exact Ev.cInt | exact Ev.cStr | exact Ev.cNone | exact Ev.cBool | exact Ev.loc (CP.at (by repeat (first | with_reducible exact List.mem_cons_self | with_reducible refine List.mem_cons_of_mem _ ?_))) | exact Ev.loc (FP.at (by repeat (first | with_reducible exact List.mem_cons_self | with_reducible refine List.mem_cons_of_mem _ ?_))) | exact Ev.cap (fun _ _ x => x.1) (by repeat (first | with_reducible exact List.mem_cons_self | with_reducible refine List.mem_cons_of_mem _ ?_)) | exact Ev.cap (fun _ _ x => x) (by repeat (first | with_reducible exact List.mem_cons_self | with_reducible refine List.mem_cons_of_mem _ ?_)) | exact Ev.cap (fun _ _ x => x.1.1) (by repeat (first | with_reducible exact List.mem_cons_self | with_reducible refine List.mem_cons_of_mem _ ?_)) | refine Ev.list (by first | exact FP.frame | exact CP.frame FP.frame | exact CP.frame (CP.frame FP.frame)) ?_ | exact EvL.nil | refine EvL.cons (by first | exact FP.frame | exact CP.frame FP.frame | exact CP.frame (CP.frame FP.frame)) ?_ ?_)) Ev.cInt (by decide) (by decide) (by rfl)) (Ev.item FP.frame (by (repeat' first | exact Ev.cInt | exact Ev.cStr | exact Ev.cNone | exact Ev.cBool | exact Ev.loc (CP.at (by repeat (first | with_reducible exact List.mem_cons_self | with_reducible refine List.mem_cons_of_mem _ ?_))) | exact Ev.loc (FP.at (by repeat (first | with_reducible exact List.mem_cons_self | with_reducible refine List.mem_cons_of_mem _ ?_))) | exact Ev.cap (fun _ _ x => x.1) (by repeat (first | with_reducible exact List.mem_cons_self | with_reducible refine List.mem_cons_of_mem _ ?_)) | exact Ev.cap (fun _ _ x => x) (by repeat (first | with_reducible exact List.mem_cons_self | with_reducible refine List.mem_cons_of_mem _ ?_)) | exact Ev.cap (fun _ _ x => x.1.1) (by repeat (first | with_reducible exact List.mem_cons_self | with_reducible refine List.mem_cons_of_mem _ ?_)) | refine Ev.list (by first | exact FP.frame | exact CP.frame FP.frame | exact CP.frame (CP.frame FP.frame)) ?_ | exact EvL.nil | refine EvL.cons (by first | exact FP.frame | exact CP.frame FP.frame | exact CP.frame (CP.frame FP.frame)) ?_ ?_)) Ev.cInt (by decide) (by decide) (by rfl)) (ne_opt o0 o1)) (fun h => ?_) (fun h => ?_)
      · rw [if_neg (by simpa using h)]
        refine Ev.list FP.frame (EvL.cons FP.frame ?_ EvL.nil)
        exact Ev.bin (d₁ := .list [.str n]) (d₂ := .list [optD o0, optD o1]) FP.frame (Ev.list FP.frame (EvL.cons FP.frame (by (repeat' first | exact Ev.cInt | exact Ev.cStr | exact Ev.cNone | exact Ev.cBool | exact Ev.loc (CP.at (by repeat (first | with_reducible exact List.mem_cons_self | with_reducible refine List.mem_cons_of_mem _ ?_))) | exact Ev.loc (FP.at (by repeat (first | with_reducible exact List.mem_cons_self | with_reducible refine List.mem_cons_of_mem _ ?_))) | exact Ev.cap (fun _ _ x => x.1) (by repeat (first | with_reducible exact List.mem_cons_self | with_reducible refine List.mem_cons_of_mem _ ?_)) | exact Ev.cap (fun _ _ x => x) (by repeat (first | with_reducible exact List.mem_cons_self | with_reducible refine List.mem_cons_of_mem _ ?_)) | exact Ev.cap (fun _ _ x => x.1.1) (by repeat (first | with_reducible exact List.mem_cons_self | with_reducible refine List.mem_cons_of_mem _ ?_)) | refine Ev.list (by first | exact FP.frame | exact CP.frame FP.frame | exact CP.frame (CP.frame FP.frame)) ?_ | exact EvL.nil | refine EvL.cons (by first | exact FP.frame | exact CP.frame FP.frame | exact CP.frame (CP.frame FP.frame)) ?_ ?_)) EvL.nil)) (by (repeat' first | exact Ev.cInt | exact Ev.cStr | exact Ev.cNone | exact Ev.cBool | exact Ev.loc (CP.at (by repeat (first | with_reducible exact List.mem_cons_self | with_reducible refine List.mem_cons_of_mem _ ?_))) | exact Ev.loc (FP.at (by repeat (first | with_reducible exact List.mem_cons_self | with_reducible refine List.mem_cons_of_mem _ ?_))) | exact Ev.cap (fun _ _ x => x.1) (by repeat (first | with_reducible exact List.mem_cons_self | with_reducible refine List.mem_cons_of_mem _ ?_)) | exact Ev.cap (fun _ _ x => x) (by repeat (first | with_reducible exact List.mem_cons_self | with_reducible refine List.mem_cons_of_mem _ ?_)) | exact Ev.cap (fun _ _ x => x.1.1) (by repeat (first | with_reducible exact List.mem_cons_self | with_reducible refine List.mem_cons_of_mem _ ?_)) | refine Ev.list (by first | exact FP.frame | exact CP.frame FP.frame | exact CP.frame (CP.frame FP.frame)) ?_ | exact EvL.nil | refine EvL.cons (by first | exact FP.frame | exact CP.frame FP.frame | exact CP.frame (CP.frame FP.frame)) ?_ ?_)) (add_lD (Nat.le_of_ble_eq_true rfl))
      · rw [if_pos (by simpa using h)]
        exact Ev.list FP.frame EvL.nil
    -- own = [..]
    refine Run.asgZip (KF := hd.heap_39 w.params) (ds1 := [.list ((ownOf S0 i).map rowOf), .list ((ownOf S1 i).map rowOf)]) (ds2 := [optD o0, optD o1]) (lvr := [(Str.ofString "due", .list (dueOf S0 S1 i ++ (if o0 = o1 then [] else [.list [.str n, optD o0, optD o1]]))), (Str.ofString "pair", .list [optD o0, optD o1]), (Str.ofString "sides", .list [.list (S0.map rowOf), .list (S1.map rowOf)]), (Str.ofString "told", .list [toldD (rowsOf ns 0), toldD (rowsOf ns 1)])])
      (fun j => .list (((if j = 0 then ownOf S0 i else ownOf S1 i) ++ optRow n (if j = 0 then o0 else o1)).map rowOf)) rfl rfl X T (by rfl) rfl rfl (by kernel_rfl!) (by kernel_rfl!) (by decide +kernel) (by (repeat' first | exact Ev.cInt | exact Ev.cStr | exact Ev.cNone | exact Ev.cBool | exact Ev.loc (CP.at (by repeat (first | with_reducible exact List.mem_cons_self | with_reducible refine List.mem_cons_of_mem _ ?_))) | exact Ev.loc (FP.at (by repeat (first | with_reducible exact List.mem_cons_self | with_reducible refine List.mem_cons_of_mem _ ?_))) | exact Ev.cap (fun _ _ x => x.1) (by repeat (first | with_reducible exact List.mem_cons_self | with_reducible refine List.mem_cons_of_mem _ ?_)) | exact Ev.cap (fun _ _ x => x) (by repeat (first | with_reducible exact List.mem_cons_self | with_reducible refine List.mem_cons_of_mem _ ?_)) | exact Ev.cap (fun _ _ x => x.1.1) (by repeat (first | with_reducible exact List.mem_cons_self | with_reducible refine List.mem_cons_of_mem _ ?_)) | refine Ev.list (by first | exact FP.frame | exact CP.frame FP.frame | exact CP.frame (CP.frame FP.frame)) ?_ | exact EvL.nil | refine EvL.cons (by first | exact FP.frame | exact CP.frame FP.frame | exact CP.frame (CP.frame FP.frame)) ?_ ?_)) (by (repeat' first | exact Ev.cInt | exact Ev.cStr | exact Ev.cNone | exact Ev.cBool | exact Ev.loc (CP.at (by repeat (first | with_reducible exact List.mem_cons_self | with_reducible refine List.mem_cons_of_mem _ ?_))) | exact Ev.loc (FP.at (by repeat (first | with_reducible exact List.mem_cons_self | with_reducible refine List.mem_cons_of_mem _ ?_))) | exact Ev.cap (fun _ _ x => x.1) (by repeat (first | with_reducible exact List.mem_cons_self | with_reducible refine List.mem_cons_of_mem _ ?_)) | exact Ev.cap (fun _ _ x => x) (by repeat (first | with_reducible exact List.mem_cons_self | with_reducible refine List.mem_cons_of_mem _ ?_)) | exact Ev.cap (fun _ _ x => x.1.1) (by repeat (first | with_reducible exact List.mem_cons_self | with_reducible refine List.mem_cons_of_mem _ ?_)) | refine Ev.list (by first | exact FP.frame | exact CP.frame FP.frame | exact CP.frame (CP.frame FP.frame)) ?_ | exact EvL.nil | refine EvL.cons (by first | exact FP.frame | exact CP.frame FP.frame | exact CP.frame (CP.frame FP.frame)) ?_ ?_)) rfl (Nat.le_of_ble_eq_true rfl) ?own ?sub2 ?_ (by rfl) (by kernel_rfl!) (by kernel_rfl!) (by kernel_rfl!) (by kernel_rfl!)
    case sub2 =>
      (repeat' first | with_reducible exact List.forall_mem_nil _ | with_reducible exact List.mem_cons_self | refine List.forall_mem_cons.mpr ⟨?_, ?_⟩ | with_reducible refine List.mem_cons_of_mem _ ?_)
    case own =>
      intro C K j d1 d2 hd1 hd2
      obtain ⟨O, o, hO, rfl, rfl, e⟩ : ∃ (O : List Row) (o : Option Str), O.length ≤ 6 ∧ d1 = .list (O.map rowOf) ∧ d2 = optD o ∧ (if j = 0 then ownOf S0 i else ownOf S1 i) ++ optRow n (if j = 0 then o0 else o1) = O ++ optRow n o := by
        rcases j with _ | _ | j
        · exact ⟨ownOf S0 i, o0, hol0, (Option.some.inj hd1).symm, (Option.some.inj hd2).symm, rfl⟩
        · exact ⟨ownOf S1 i, o1, hol1, (Option.some.inj hd1).symm, (Option.some.inj hd2).symm, rfl⟩
        · simp at hd1
      rw [e]
      have em : (O ++ optRow n o).map rowOf = O.map rowOf ++ ((([.int 0] : List Dat).filter fun _ => o.isSome).map fun _ => rowOf (n, o.getD (Str.ofString ""))) := by
        cases o <;> simp [optRow]
      rw [em]
      refine Ev.bin (CPK.frame FP.frame) (Ev.loc fun G h q => CP.at (.head _) G h q.1) (Ev.comp (h₀ := h₀) (ds := [.int 0]) (fun d => [(Str.ofString "once", d)]) (fun _ => o.isSome) (fun _ => rowOf (n, o.getD (Str.ofString ""))) (CPK.frame FP.frame) rfl (by rfl) (by decide) (by rfl) (by decide) (Ev.list (CPK.frame FP.frame) (EvL.cons (CPK.frame FP.frame) Ev.cInt EvL.nil)) (by cases o <;> exact Nat.le_of_ble_eq_true rfl) ?_ ?_ ?_) (add_lD ?_)
      · intro C2 d2 _
        exact asg_name rfl (by kernel_rfl!) (by kernel_rfl!)
      · intro C2 d2 _
        exact EvTs.one (EvT.cmp (CP.frame (CPK.frame FP.frame)) (Ev.cell fun G h q => q.1.2.2.2.2) Ev.cNone (isNot_opt o))
      · intro C2 d2 _ ho
        cases o with
        | none => cases ho
        | some so =>
          exact Ev.list (CP.frame (CPK.frame FP.frame)) (EvL.cons (CP.frame (CPK.frame FP.frame)) (Ev.cap (fun _ _ q => q.1.1.1) (.head _)) (EvL.cons (CP.frame (CPK.frame FP.frame)) (Ev.cell fun G h q => q.1.2.2.2.2) EvL.nil))
      · rw [List.length_map, sizeLine_eq]
        cases o <;> simp <;> omega
    refine .mk fun h' tk' G' htk' y l => wpAny_execs_nil ⟨rfl, h', tk', G', rfl, htk', y.less (fun p hp => ?_) (fun p hp => .tail _ hp), l⟩
    simp only [List.mem_cons, List.not_mem_nil, or_false] at hp
    rcases hp with rfl | rfl | rfl | rfl
    · simp
    · simp
    · exact .head _
    · simp
  case after =>
    have h6 : (List.map Dat.str namesS).length = 6 := rfl
    rw [h6]
    clear hH
    have ll0 := listS_len ns 0
    have ll1 := listS_len ns 1
    have os0 := ok.ok 0 (.inl rfl)
    have os1 := ok.ok 1 (.inr rfl)
    have st0 := ok.sort3 0 (.inl rfl)
    have st1 := ok.sort3 1 (.inr rfl)
    have hrep := ok.rep
    have hthr := ok.thr
    have hs1 := ok.sld1
    have hs2 := ok.sld2
    have hsl := ok.sldl
    have hdue := ok.due
    change Run _ _ _ _ _ (FP h₀ L [] _ [(Str.ofString "sides", .list [.list ((sideOf (rowsOf ns 0)).map rowOf), .list ((sideOf (rowsOf ns 1)).map rowOf)]), (Str.ofString "due", .list (dueOf (sideOf (rowsOf ns 0)) (sideOf (rowsOf ns 1)) 6)),
      (Str.ofString "own", .list [.list ((listS ns 0).map rowOf), .list ((listS ns 1).map rowOf)]), (Str.ofString "told", .list [.list [.list ((listS ns 0).map rowOf), .list ((rowsOf ns 0).map heardD)], .list [.list ((listS ns 1).map rowOf), .list ((rowsOf ns 1).map heardD)]])] _) _ _ _
    generalize dueOf (sideOf (rowsOf ns 0)) (sideOf (rowsOf ns 1)) 6 = due at *
    generalize (sideOf (rowsOf ns 0)) = S0 at *
    generalize (sideOf (rowsOf ns 1)) = S1 at *
    generalize listS ns 0 = o0 at *
    generalize listS ns 1 = o1 at *
    -- one, two = (told[0][0], told[1][0])
    refine Run.swap (names := [Str.ofString "one", Str.ofString "two"]) (ds := [.list (o0.map rowOf), .list (o1.map rowOf)]) (lvr := [(Str.ofString "due", .list due), (Str.ofString "own", .list [.list (o0.map rowOf), .list (o1.map rowOf)])]) rfl rfl (EvL.cons FP.frame ?e1 (EvL.cons FP.frame ?e2 EvL.nil)) ?sub3 ?k3 rfl (Nat.le_of_ble_eq_true rfl) ?hxk3 (by decide +kernel) ?hnw3
    case e1 => exact Ev.item FP.frame (Ev.item FP.frame (by (repeat' first | exact Ev.cInt | exact Ev.cStr | exact Ev.cNone | exact Ev.cBool | exact Ev.loc (CP.at (by repeat (first | with_reducible exact List.mem_cons_self | with_reducible refine List.mem_cons_of_mem _ ?_))) | exact Ev.loc (FP.at (by repeat (first | with_reducible exact List.mem_cons_self | with_reducible refine List.mem_cons_of_mem _ ?_))) | exact Ev.cap (fun _ _ x => x.1) (by repeat (first | with_reducible exact List.mem_cons_self | with_reducible refine List.mem_cons_of_mem _ ?_)) | exact Ev.cap (fun _ _ x => x) (by repeat (first | with_reducible exact List.mem_cons_self | with_reducible refine List.mem_cons_of_mem _ ?_)) | exact Ev.cap (fun _ _ x => x.1.1) (by repeat (first | with_reducible exact List.mem_cons_self | with_reducible refine List.mem_cons_of_mem _ ?_)) | refine Ev.list (by first | exact FP.frame | exact CP.frame FP.frame | exact CP.frame (CP.frame FP.frame)) ?_ | exact EvL.nil | refine EvL.cons (by first | exact FP.frame | exact CP.frame FP.frame | exact CP.frame (CP.frame FP.frame)) ?_ ?_)) Ev.cInt (by decide) (by decide) (by rfl)) Ev.cInt (by decide) (by decide) (by rfl)
    case e2 => exact Ev.item FP.frame (Ev.item FP.frame (by (repeat' first | exact Ev.cInt | exact Ev.cStr | exact Ev.cNone | exact Ev.cBool | exact Ev.loc (CP.at (by repeat (first | with_reducible exact List.mem_cons_self | with_reducible refine List.mem_cons_of_mem _ ?_))) | exact Ev.loc (FP.at (by repeat (first | with_reducible exact List.mem_cons_self | with_reducible refine List.mem_cons_of_mem _ ?_))) | exact Ev.cap (fun _ _ x => x.1) (by repeat (first | with_reducible exact List.mem_cons_self | with_reducible refine List.mem_cons_of_mem _ ?_)) | exact Ev.cap (fun _ _ x => x) (by repeat (first | with_reducible exact List.mem_cons_self | with_reducible refine List.mem_cons_of_mem _ ?_)) | exact Ev.cap (fun _ _ x => x.1.1) (by repeat (first | with_reducible exact List.mem_cons_self | with_reducible refine List.mem_cons_of_mem _ ?_)) | refine Ev.list (by first | exact FP.frame | exact CP.frame FP.frame | exact CP.frame (CP.frame FP.frame)) ?_ | exact EvL.nil | refine EvL.cons (by first | exact FP.frame | exact CP.frame FP.frame | exact CP.frame (CP.frame FP.frame)) ?_ ?_)) Ev.cInt (by decide) (by decide) (by rfl)) Ev.cInt (by decide) (by decide) (by rfl)
    case sub3 =>
      (repeat' first | with_reducible exact List.forall_mem_nil _ | with_reducible exact List.mem_cons_self | refine List.forall_mem_cons.mpr ⟨?_, ?_⟩ | with_reducible refine List.mem_cons_of_mem _ ?_)
    case hxk3 =>
      (repeat' first | with_reducible exact List.forall_mem_nil _ | refine List.forall_mem_cons.mpr ⟨?_, ?_⟩ | kernel_rfl!)
    case hnw3 =>
      intro p hp
      simp only [List.mem_cons, List.not_mem_nil, or_false] at hp
      rcases hp with rfl | rfl
      · show Str.ofString "due" ∉ _; decide +kernel
      · show Str.ofString "own" ∉ _; decide +kernel
    change Run _ _ _ _ _ (FP h₀ L [] _ [(Str.ofString "one", .list (o0.map rowOf)), (Str.ofString "two", .list (o1.map rowOf)), (Str.ofString "due", .list due), (Str.ofString "own", .list [.list (o0.map rowOf), .list (o1.map rowOf)])] _) _ _ _
    -- gone, new = sorted_list_difference(one, two)
    refine Run.asgTup (xs := [(Str.ofString "gone", _), (Str.ofString "new", _)]) (ds := [.list ((sldP o0 o1).1.map rowOf), .list ((sldP o0 o1).2.map rowOf)]) rfl rfl ?e4 ?k4 rfl (by (repeat' first | with_reducible exact List.forall_mem_nil _ | refine List.forall_mem_cons.mpr ⟨?_, ?_⟩ | kernel_rfl!)) (by decide +kernel) (by kernel_rfl!)
    case e4 => exact Ev.callX FP.frame B X T (by rfl) (by decide) (by decide) (fsld o0 o1 (by omega) (by omega)) (EvL.cons FP.frame (by (repeat' first | exact Ev.cInt | exact Ev.cStr | exact Ev.cNone | exact Ev.cBool | exact Ev.loc (CP.at (by repeat (first | with_reducible exact List.mem_cons_self | with_reducible refine List.mem_cons_of_mem _ ?_))) | exact Ev.loc (FP.at (by repeat (first | with_reducible exact List.mem_cons_self | with_reducible refine List.mem_cons_of_mem _ ?_))) | exact Ev.cap (fun _ _ x => x.1) (by repeat (first | with_reducible exact List.mem_cons_self | with_reducible refine List.mem_cons_of_mem _ ?_)) | exact Ev.cap (fun _ _ x => x) (by repeat (first | with_reducible exact List.mem_cons_self | with_reducible refine List.mem_cons_of_mem _ ?_)) | exact Ev.cap (fun _ _ x => x.1.1) (by repeat (first | with_reducible exact List.mem_cons_self | with_reducible refine List.mem_cons_of_mem _ ?_)) | refine Ev.list (by first | exact FP.frame | exact CP.frame FP.frame | exact CP.frame (CP.frame FP.frame)) ?_ | exact EvL.nil | refine EvL.cons (by first | exact FP.frame | exact CP.frame FP.frame | exact CP.frame (CP.frame FP.frame)) ?_ ?_)) (EvL.cons FP.frame (by (repeat' first | exact Ev.cInt | exact Ev.cStr | exact Ev.cNone | exact Ev.cBool | exact Ev.loc (CP.at (by repeat (first | with_reducible exact List.mem_cons_self | with_reducible refine List.mem_cons_of_mem _ ?_))) | exact Ev.loc (FP.at (by repeat (first | with_reducible exact List.mem_cons_self | with_reducible refine List.mem_cons_of_mem _ ?_))) | exact Ev.cap (fun _ _ x => x.1) (by repeat (first | with_reducible exact List.mem_cons_self | with_reducible refine List.mem_cons_of_mem _ ?_)) | exact Ev.cap (fun _ _ x => x) (by repeat (first | with_reducible exact List.mem_cons_self | with_reducible refine List.mem_cons_of_mem _ ?_)) | exact Ev.cap (fun _ _ x => x.1.1) (by repeat (first | with_reducible exact List.mem_cons_self | with_reducible refine List.mem_cons_of_mem _ ?_)) | refine Ev.list (by first | exact FP.frame | exact CP.frame FP.frame | exact CP.frame (CP.frame FP.frame)) ?_ | exact EvL.nil | refine EvL.cons (by first | exact FP.frame | exact CP.frame FP.frame | exact CP.frame (CP.frame FP.frame)) ?_ ?_)) EvL.nil))
    change Run _ _ _ _ _ (FP h₀ L [] _ [(Str.ofString "gone", .list ((sldP o0 o1).1.map rowOf)), (Str.ofString "new", .list ((sldP o0 o1).2.map rowOf)), (Str.ofString "one", .list (o0.map rowOf)), (Str.ofString "two", .list (o1.map rowOf)), (Str.ofString "due", .list due), (Str.ofString "own", .list [.list (o0.map rowOf), .list (o1.map rowOf)])] _) _ _ _
    -- more = [..]
    have sl : ∀ a b : List Row, (∃ x y, sldP a b = (x, y)) := fun a b => ⟨_, _, rfl⟩
    have tl0 := tri_len o0
    have tl1 := tri_len o1
    refine Run.asg (x := Str.ofString "more") (d := moreD o0 o1) rfl ?more ?k5
    case more =>
      unfold moreD
      have f1 := fsld (tri o0) (tri o1) (by omega) (by omega)
      rw [hthr] at f1
      have f2 := fsld [] o1 (by simp) (by omega)
      rw [sldP_nil] at f2
      have f3 := fsld o0 [] (by omega) (by simp)
      rw [sldP_nilR] at f3
      refine Ev.list FP.frame (EvL.cons FP.frame ?m1 (EvL.cons FP.frame ?m2 (EvL.cons FP.frame ?m3 EvL.nil)))
      case m1 =>
        refine Ev.listOfTup FP.frame X T (Ev.callX FP.frame B X T (by rfl) (by decide) (by decide) f1 (EvL.cons FP.frame ?s1 (EvL.cons FP.frame ?s2 EvL.nil))) (Nat.le_of_ble_eq_true rfl) (by rfl) (by kernel_rfl!) (by kernel_rfl!) (by kernel_rfl!) (by kernel_rfl!)
        case s1 =>
          refine Ev.sortedRows FP.frame X T ?_ st0 (by show 4 + 3 + 10 < cLine; decide) (by rfl) (by kernel_rfl!) (by kernel_rfl!) (by kernel_rfl!) (by kernel_rfl!)
          rw [trip_map]
          exact Ev.bin FP.frame (by (repeat' first | exact Ev.cInt | exact Ev.cStr | exact Ev.cNone | exact Ev.cBool | exact Ev.loc (CP.at (by repeat (first | with_reducible exact List.mem_cons_self | with_reducible refine List.mem_cons_of_mem _ ?_))) | exact Ev.loc (FP.at (by repeat (first | with_reducible exact List.mem_cons_self | with_reducible refine List.mem_cons_of_mem _ ?_))) | exact Ev.cap (fun _ _ x => x.1) (by repeat (first | with_reducible exact List.mem_cons_self | with_reducible refine List.mem_cons_of_mem _ ?_)) | exact Ev.cap (fun _ _ x => x) (by repeat (first | with_reducible exact List.mem_cons_self | with_reducible refine List.mem_cons_of_mem _ ?_)) | exact Ev.cap (fun _ _ x => x.1.1) (by repeat (first | with_reducible exact List.mem_cons_self | with_reducible refine List.mem_cons_of_mem _ ?_)) | refine Ev.list (by first | exact FP.frame | exact CP.frame FP.frame | exact CP.frame (CP.frame FP.frame)) ?_ | exact EvL.nil | refine EvL.cons (by first | exact FP.frame | exact CP.frame FP.frame | exact CP.frame (CP.frame FP.frame)) ?_ ?_)) Ev.cInt (mul_lD (by decide) (by decide) (by rw [List.length_map]; have : (3 : Int).toNat = 3 := rfl; rw [this]; omega))
        case s2 =>
          refine Ev.sortedRows FP.frame X T ?_ st1 (by show 4 + 3 + 10 < cLine; decide) (by rfl) (by kernel_rfl!) (by kernel_rfl!) (by kernel_rfl!) (by kernel_rfl!)
          rw [trip_map]
          exact Ev.bin FP.frame (by (repeat' first | exact Ev.cInt | exact Ev.cStr | exact Ev.cNone | exact Ev.cBool | exact Ev.loc (CP.at (by repeat (first | with_reducible exact List.mem_cons_self | with_reducible refine List.mem_cons_of_mem _ ?_))) | exact Ev.loc (FP.at (by repeat (first | with_reducible exact List.mem_cons_self | with_reducible refine List.mem_cons_of_mem _ ?_))) | exact Ev.cap (fun _ _ x => x.1) (by repeat (first | with_reducible exact List.mem_cons_self | with_reducible refine List.mem_cons_of_mem _ ?_)) | exact Ev.cap (fun _ _ x => x) (by repeat (first | with_reducible exact List.mem_cons_self | with_reducible refine List.mem_cons_of_mem _ ?_)) | exact Ev.cap (fun _ _ x => x.1.1) (by repeat (first | with_reducible exact List.mem_cons_self | with_reducible refine List.mem_cons_of_mem _ ?_)) | refine Ev.list (by first | exact FP.frame | exact CP.frame FP.frame | exact CP.frame (CP.frame FP.frame)) ?_ | exact EvL.nil | refine EvL.cons (by first | exact FP.frame | exact CP.frame FP.frame | exact CP.frame (CP.frame FP.frame)) ?_ ?_)) Ev.cInt (mul_lD (by decide) (by decide) (by rw [List.length_map]; have : (3 : Int).toNat = 3 := rfl; rw [this]; omega))
      case m2 =>
        exact Ev.listOfTup FP.frame X T (Ev.callX FP.frame B X T (by rfl) (by decide) (by decide) f2 (EvL.cons FP.frame (Ev.list FP.frame EvL.nil) (EvL.cons FP.frame (by (repeat' first | exact Ev.cInt | exact Ev.cStr | exact Ev.cNone | exact Ev.cBool | exact Ev.loc (CP.at (by repeat (first | with_reducible exact List.mem_cons_self | with_reducible refine List.mem_cons_of_mem _ ?_))) | exact Ev.loc (FP.at (by repeat (first | with_reducible exact List.mem_cons_self | with_reducible refine List.mem_cons_of_mem _ ?_))) | exact Ev.cap (fun _ _ x => x.1) (by repeat (first | with_reducible exact List.mem_cons_self | with_reducible refine List.mem_cons_of_mem _ ?_)) | exact Ev.cap (fun _ _ x => x) (by repeat (first | with_reducible exact List.mem_cons_self | with_reducible refine List.mem_cons_of_mem _ ?_)) | exact Ev.cap (fun _ _ x => x.1.1) (by repeat (first | with_reducible exact List.mem_cons_self | with_reducible refine List.mem_cons_of_mem _ ?_)) | refine Ev.list (by first | exact FP.frame | exact CP.frame FP.frame | exact CP.frame (CP.frame FP.frame)) ?_ | exact EvL.nil | refine EvL.cons (by first | exact FP.frame | exact CP.frame FP.frame | exact CP.frame (CP.frame FP.frame)) ?_ ?_)) EvL.nil))) (Nat.le_of_ble_eq_true rfl) (by rfl) (by kernel_rfl!) (by kernel_rfl!) (by kernel_rfl!) (by kernel_rfl!)
      case m3 =>
        exact Ev.listOfTup FP.frame X T (Ev.callX FP.frame B X T (by rfl) (by decide) (by decide) f3 (EvL.cons FP.frame (by (repeat' first | exact Ev.cInt | exact Ev.cStr | exact Ev.cNone | exact Ev.cBool | exact Ev.loc (CP.at (by repeat (first | with_reducible exact List.mem_cons_self | with_reducible refine List.mem_cons_of_mem _ ?_))) | exact Ev.loc (FP.at (by repeat (first | with_reducible exact List.mem_cons_self | with_reducible refine List.mem_cons_of_mem _ ?_))) | exact Ev.cap (fun _ _ x => x.1) (by repeat (first | with_reducible exact List.mem_cons_self | with_reducible refine List.mem_cons_of_mem _ ?_)) | exact Ev.cap (fun _ _ x => x) (by repeat (first | with_reducible exact List.mem_cons_self | with_reducible refine List.mem_cons_of_mem _ ?_)) | exact Ev.cap (fun _ _ x => x.1.1) (by repeat (first | with_reducible exact List.mem_cons_self | with_reducible refine List.mem_cons_of_mem _ ?_)) | refine Ev.list (by first | exact FP.frame | exact CP.frame FP.frame | exact CP.frame (CP.frame FP.frame)) ?_ | exact EvL.nil | refine EvL.cons (by first | exact FP.frame | exact CP.frame FP.frame | exact CP.frame (CP.frame FP.frame)) ?_ ?_)) (EvL.cons FP.frame (Ev.list FP.frame EvL.nil) EvL.nil))) (Nat.le_of_ble_eq_true rfl) (by rfl) (by kernel_rfl!) (by kernel_rfl!) (by kernel_rfl!) (by kernel_rfl!)
    -- return ..
    have hrp := freport (sldP o0 o1).1 (sldP o0 o1).2 hsl.1 hsl.2 hs1 hs2
    rw [hrep] at hrp
    have ht01 := fthrice o0 o1 (by omega) (by omega) os0 os1
    have ht10 := fthrice o1 o0 (by omega) (by omega) os1 os0
    refine Run.ret (d := .bool true) FP.frame ?ret (fun v h tk G htk hP hl dv => by (first | (apply dInt (v := v) dv; intro _) | (apply dStr (v := v) dv; intro _) | apply dBool (v := v) dv | apply dNone (v := v) dv); obtain ⟨m0, F0, _⟩ := hP.loc; exact hQ h tk m0 F0)
    refine Ev.cmp (d₁ := .list [.list due, moreD o0 o1]) (d₂ := .list [.list due, moreD o0 o1]) FP.frame ?l ?r (eq_same ?okb (by show 4 + 3 + 64 < cLine; decide))
    case l =>
      exact Ev.list FP.frame (EvL.cons FP.frame (Ev.call FP.frame B X T (by rfl) (by decide) (by decide) hrp (EvL.cons FP.frame (by (repeat' first | exact Ev.cInt | exact Ev.cStr | exact Ev.cNone | exact Ev.cBool | exact Ev.loc (CP.at (by repeat (first | with_reducible exact List.mem_cons_self | with_reducible refine List.mem_cons_of_mem _ ?_))) | exact Ev.loc (FP.at (by repeat (first | with_reducible exact List.mem_cons_self | with_reducible refine List.mem_cons_of_mem _ ?_))) | exact Ev.cap (fun _ _ x => x.1) (by repeat (first | with_reducible exact List.mem_cons_self | with_reducible refine List.mem_cons_of_mem _ ?_)) | exact Ev.cap (fun _ _ x => x) (by repeat (first | with_reducible exact List.mem_cons_self | with_reducible refine List.mem_cons_of_mem _ ?_)) | exact Ev.cap (fun _ _ x => x.1.1) (by repeat (first | with_reducible exact List.mem_cons_self | with_reducible refine List.mem_cons_of_mem _ ?_)) | refine Ev.list (by first | exact FP.frame | exact CP.frame FP.frame | exact CP.frame (CP.frame FP.frame)) ?_ | exact EvL.nil | refine EvL.cons (by first | exact FP.frame | exact CP.frame FP.frame | exact CP.frame (CP.frame FP.frame)) ?_ ?_)) (EvL.cons FP.frame (by (repeat' first | exact Ev.cInt | exact Ev.cStr | exact Ev.cNone | exact Ev.cBool | exact Ev.loc (CP.at (by repeat (first | with_reducible exact List.mem_cons_self | with_reducible refine List.mem_cons_of_mem _ ?_))) | exact Ev.loc (FP.at (by repeat (first | with_reducible exact List.mem_cons_self | with_reducible refine List.mem_cons_of_mem _ ?_))) | exact Ev.cap (fun _ _ x => x.1) (by repeat (first | with_reducible exact List.mem_cons_self | with_reducible refine List.mem_cons_of_mem _ ?_)) | exact Ev.cap (fun _ _ x => x) (by repeat (first | with_reducible exact List.mem_cons_self | with_reducible refine List.mem_cons_of_mem _ ?_)) | exact Ev.cap (fun _ _ x => x.1.1) (by repeat (first | with_reducible exact List.mem_cons_self | with_reducible refine List.mem_cons_of_mem _ ?_)) | refine Ev.list (by first | exact FP.frame | exact CP.frame FP.frame | exact CP.frame (CP.frame FP.frame)) ?_ | exact EvL.nil | refine EvL.cons (by first | exact FP.frame | exact CP.frame FP.frame | exact CP.frame (CP.frame FP.frame)) ?_ ?_)) EvL.nil))) (EvL.cons FP.frame (by (repeat' first | exact Ev.cInt | exact Ev.cStr | exact Ev.cNone | exact Ev.cBool | exact Ev.loc (CP.at (by repeat (first | with_reducible exact List.mem_cons_self | with_reducible refine List.mem_cons_of_mem _ ?_))) | exact Ev.loc (FP.at (by repeat (first | with_reducible exact List.mem_cons_self | with_reducible refine List.mem_cons_of_mem _ ?_))) | exact Ev.cap (fun _ _ x => x.1) (by repeat (first | with_reducible exact List.mem_cons_self | with_reducible refine List.mem_cons_of_mem _ ?_)) | exact Ev.cap (fun _ _ x => x) (by repeat (first | with_reducible exact List.mem_cons_self | with_reducible refine List.mem_cons_of_mem _ ?_)) | exact Ev.cap (fun _ _ x => x.1.1) (by repeat (first | with_reducible exact List.mem_cons_self | with_reducible refine List.mem_cons_of_mem _ ?_)) | refine Ev.list (by first | exact FP.frame | exact CP.frame FP.frame | exact CP.frame (CP.frame FP.frame)) ?_ | exact EvL.nil | refine EvL.cons (by first | exact FP.frame | exact CP.frame FP.frame | exact CP.frame (CP.frame FP.frame)) ?_ ?_)) EvL.nil))
    case r =>
      have i0 : ∀ {k : Nat} {d : Dat}, True := fun {_ _} => trivial
      unfold moreD
      refine Ev.list FP.frame (EvL.cons FP.frame (by (repeat' first | exact Ev.cInt | exact Ev.cStr | exact Ev.cNone | exact Ev.cBool | exact Ev.loc (CP.at (by repeat (first | with_reducible exact List.mem_cons_self | with_reducible refine List.mem_cons_of_mem _ ?_))) | exact Ev.loc (FP.at (by repeat (first | with_reducible exact List.mem_cons_self | with_reducible refine List.mem_cons_of_mem _ ?_))) | exact Ev.cap (fun _ _ x => x.1) (by repeat (first | with_reducible exact List.mem_cons_self | with_reducible refine List.mem_cons_of_mem _ ?_)) | exact Ev.cap (fun _ _ x => x) (by repeat (first | with_reducible exact List.mem_cons_self | with_reducible refine List.mem_cons_of_mem _ ?_)) | exact Ev.cap (fun _ _ x => x.1.1) (by repeat (first | with_reducible exact List.mem_cons_self | with_reducible refine List.mem_cons_of_mem _ ?_)) | refine Ev.list (by first | exact FP.frame | exact CP.frame FP.frame | exact CP.frame (CP.frame FP.frame)) ?_ | exact EvL.nil | refine EvL.cons (by first | exact FP.frame | exact CP.frame FP.frame | exact CP.frame (CP.frame FP.frame)) ?_ ?_)) (EvL.cons FP.frame (Ev.list FP.frame (EvL.cons FP.frame (Ev.list FP.frame (EvL.cons FP.frame ?t1 (EvL.cons FP.frame ?t2 EvL.nil))) (EvL.cons FP.frame (Ev.list FP.frame (EvL.cons FP.frame (Ev.list FP.frame EvL.nil) (EvL.cons FP.frame ?t3 EvL.nil))) (EvL.cons FP.frame (Ev.list FP.frame (EvL.cons FP.frame ?t4 (EvL.cons FP.frame (Ev.list FP.frame EvL.nil) EvL.nil))) EvL.nil)))) EvL.nil))
      case t1 => exact Ev.call FP.frame B X T (by rfl) (by decide) (by decide) ht01 (EvL.cons FP.frame (Ev.item FP.frame (by (repeat' first | exact Ev.cInt | exact Ev.cStr | exact Ev.cNone | exact Ev.cBool | exact Ev.loc (CP.at (by repeat (first | with_reducible exact List.mem_cons_self | with_reducible refine List.mem_cons_of_mem _ ?_))) | exact Ev.loc (FP.at (by repeat (first | with_reducible exact List.mem_cons_self | with_reducible refine List.mem_cons_of_mem _ ?_))) | exact Ev.cap (fun _ _ x => x.1) (by repeat (first | with_reducible exact List.mem_cons_self | with_reducible refine List.mem_cons_of_mem _ ?_)) | exact Ev.cap (fun _ _ x => x) (by repeat (first | with_reducible exact List.mem_cons_self | with_reducible refine List.mem_cons_of_mem _ ?_)) | exact Ev.cap (fun _ _ x => x.1.1) (by repeat (first | with_reducible exact List.mem_cons_self | with_reducible refine List.mem_cons_of_mem _ ?_)) | refine Ev.list (by first | exact FP.frame | exact CP.frame FP.frame | exact CP.frame (CP.frame FP.frame)) ?_ | exact EvL.nil | refine EvL.cons (by first | exact FP.frame | exact CP.frame FP.frame | exact CP.frame (CP.frame FP.frame)) ?_ ?_)) Ev.cInt (by decide) (by decide) (by rfl)) (EvL.cons FP.frame (Ev.item FP.frame (by (repeat' first | exact Ev.cInt | exact Ev.cStr | exact Ev.cNone | exact Ev.cBool | exact Ev.loc (CP.at (by repeat (first | with_reducible exact List.mem_cons_self | with_reducible refine List.mem_cons_of_mem _ ?_))) | exact Ev.loc (FP.at (by repeat (first | with_reducible exact List.mem_cons_self | with_reducible refine List.mem_cons_of_mem _ ?_))) | exact Ev.cap (fun _ _ x => x.1) (by repeat (first | with_reducible exact List.mem_cons_self | with_reducible refine List.mem_cons_of_mem _ ?_)) | exact Ev.cap (fun _ _ x => x) (by repeat (first | with_reducible exact List.mem_cons_self | with_reducible refine List.mem_cons_of_mem _ ?_)) | exact Ev.cap (fun _ _ x => x.1.1) (by repeat (first | with_reducible exact List.mem_cons_self | with_reducible refine List.mem_cons_of_mem _ ?_)) | refine Ev.list (by first | exact FP.frame | exact CP.frame FP.frame | exact CP.frame (CP.frame FP.frame)) ?_ | exact EvL.nil | refine EvL.cons (by first | exact FP.frame | exact CP.frame FP.frame | exact CP.frame (CP.frame FP.frame)) ?_ ?_)) Ev.cInt (by decide) (by decide) (by rfl)) EvL.nil))
      case t2 => exact Ev.call FP.frame B X T (by rfl) (by decide) (by decide) ht10 (EvL.cons FP.frame (Ev.item FP.frame (by (repeat' first | exact Ev.cInt | exact Ev.cStr | exact Ev.cNone | exact Ev.cBool | exact Ev.loc (CP.at (by repeat (first | with_reducible exact List.mem_cons_self | with_reducible refine List.mem_cons_of_mem _ ?_))) | exact Ev.loc (FP.at (by repeat (first | with_reducible exact List.mem_cons_self | with_reducible refine List.mem_cons_of_mem _ ?_))) | exact Ev.cap (fun _ _ x => x.1) (by repeat (first | with_reducible exact List.mem_cons_self | with_reducible refine List.mem_cons_of_mem _ ?_)) | exact Ev.cap (fun _ _ x => x) (by repeat (first | with_reducible exact List.mem_cons_self | with_reducible refine List.mem_cons_of_mem _ ?_)) | exact Ev.cap (fun _ _ x => x.1.1) (by repeat (first | with_reducible exact List.mem_cons_self | with_reducible refine List.mem_cons_of_mem _ ?_)) | refine Ev.list (by first | exact FP.frame | exact CP.frame FP.frame | exact CP.frame (CP.frame FP.frame)) ?_ | exact EvL.nil | refine EvL.cons (by first | exact FP.frame | exact CP.frame FP.frame | exact CP.frame (CP.frame FP.frame)) ?_ ?_)) Ev.cInt (by decide) (by decide) (by rfl)) (EvL.cons FP.frame (Ev.item FP.frame (by (repeat' first | exact Ev.cInt | exact Ev.cStr | exact Ev.cNone | exact Ev.cBool | exact Ev.loc (CP.at (by repeat (first | with_reducible exact List.mem_cons_self | with_reducible refine List.mem_cons_of_mem _ ?_))) | exact Ev.loc (FP.at (by repeat (first | with_reducible exact List.mem_cons_self | with_reducible refine List.mem_cons_of_mem _ ?_))) | exact Ev.cap (fun _ _ x => x.1) (by repeat (first | with_reducible exact List.mem_cons_self | with_reducible refine List.mem_cons_of_mem _ ?_)) | exact Ev.cap (fun _ _ x => x) (by repeat (first | with_reducible exact List.mem_cons_self | with_reducible refine List.mem_cons_of_mem _ ?_)) | exact Ev.cap (fun _ _ x => x.1.1) (by repeat (first | with_reducible exact List.mem_cons_self | with_reducible refine List.mem_cons_of_mem _ ?_)) | refine Ev.list (by first | exact FP.frame | exact CP.frame FP.frame | exact CP.frame (CP.frame FP.frame)) ?_ | exact EvL.nil | refine EvL.cons (by first | exact FP.frame | exact CP.frame FP.frame | exact CP.frame (CP.frame FP.frame)) ?_ ?_)) Ev.cInt (by decide) (by decide) (by rfl)) EvL.nil))
      case t3 => exact Ev.item FP.frame (by (repeat' first | exact Ev.cInt | exact Ev.cStr | exact Ev.cNone | exact Ev.cBool | exact Ev.loc (CP.at (by repeat (first | with_reducible exact List.mem_cons_self | with_reducible refine List.mem_cons_of_mem _ ?_))) | exact Ev.loc (FP.at (by repeat (first | with_reducible exact List.mem_cons_self | with_reducible refine List.mem_cons_of_mem _ ?_))) | exact Ev.cap (fun _ _ x => x.1) (by repeat (first | with_reducible exact List.mem_cons_self | with_reducible refine List.mem_cons_of_mem _ ?_)) | exact Ev.cap (fun _ _ x => x) (by repeat (first | with_reducible exact List.mem_cons_self | with_reducible refine List.mem_cons_of_mem _ ?_)) | exact Ev.cap (fun _ _ x => x.1.1) (by repeat (first | with_reducible exact List.mem_cons_self | with_reducible refine List.mem_cons_of_mem _ ?_)) | refine Ev.list (by first | exact FP.frame | exact CP.frame FP.frame | exact CP.frame (CP.frame FP.frame)) ?_ | exact EvL.nil | refine EvL.cons (by first | exact FP.frame | exact CP.frame FP.frame | exact CP.frame (CP.frame FP.frame)) ?_ ?_)) Ev.cInt (by decide) (by decide) (by rfl)
      case t4 => exact Ev.item FP.frame (by (repeat' first | exact Ev.cInt | exact Ev.cStr | exact Ev.cNone | exact Ev.cBool | exact Ev.loc (CP.at (by repeat (first | with_reducible exact List.mem_cons_self | with_reducible refine List.mem_cons_of_mem _ ?_))) | exact Ev.loc (FP.at (by repeat (first | with_reducible exact List.mem_cons_self | with_reducible refine List.mem_cons_of_mem _ ?_))) | exact Ev.cap (fun _ _ x => x.1) (by repeat (first | with_reducible exact List.mem_cons_self | with_reducible refine List.mem_cons_of_mem _ ?_)) | exact Ev.cap (fun _ _ x => x) (by repeat (first | with_reducible exact List.mem_cons_self | with_reducible refine List.mem_cons_of_mem _ ?_)) | exact Ev.cap (fun _ _ x => x.1.1) (by repeat (first | with_reducible exact List.mem_cons_self | with_reducible refine List.mem_cons_of_mem _ ?_)) | refine Ev.list (by first | exact FP.frame | exact CP.frame FP.frame | exact CP.frame (CP.frame FP.frame)) ?_ | exact EvL.nil | refine EvL.cons (by first | exact FP.frame | exact CP.frame FP.frame | exact CP.frame (CP.frame FP.frame)) ?_ ?_)) Ev.cInt (by decide) (by decide) (by rfl)
    case okb =>
      have h1 := okB_more os0 os1
      show List.all [_, _] (okB 8) = true
      simp [hdue, h1]
end Mine
end

section
open PySem PySem.W PyProof.Rows PySem.Calls
set_option Elab.async false
set_option maxRecDepth 100000
set_option linter.all false
set_option maxHeartbeats 8000000
set_option pp.deepTerms.threshold 8
set_option pp.deepTerms false
set_option pp.proofs.threshold 2
namespace Mine
theorem le63 {n : Nat} (h : ¬ ((63 : Nat) : Int) < (n : Int)) : n ≤ 63 := by omega
/-- the law's walk, from where its frame has been laid -/
theorem law_runs {w : World} {ns : List Int} (ok : LawOk ns) (hns : ns.length ≤ 63) {oc : Value} {od : Option Addr} {name qual : Str} {params : Arguments} {body : List Stmt} {scope : Scope} {dV kV doc pm : Value} {an : Option Addr} {cdv ct : Value} {osl : Array (Option Value)}
    (hlk : (hd.heap_39 w.params).lookup 148 = some ⟨oc, od, .func (fnOf name qual params body scope dV kV doc pm an cdv ct), osl⟩) : LawRuns w ns name scope body := by
  obtain ⟨oc', od', name', qual', params', body', scope', dV', kV', doc', pm', an', cdv', ct', osl', hlk', run⟩ := law_run w ns hns ok
  rw [hlk] at hlk'
  cases hlk'
  exact run
theorem law_end {w : World} {ns : List Int} (ok : LawOk ns) (hns : ns.length ≤ 63) {oc : Value} {od : Option Addr} {name qual : Str} {params : Arguments} {body : List Stmt} {scope : Scope} {dV kV doc pm : Value} {an : Option Addr} {cdv ct : Value} {osl : Array (Option Value)}
    (hlk : (hd.heap_39 w.params).lookup 148 = some ⟨oc, od, .func (fnOf name qual params body scope dV kV doc pm an cdv ct), osl⟩)
    {loose : List Str} {mean : ExcName → Option Value} {mg mb : Str → Option Value} {fa : Addr} {cd : Value} {s₁ : Shared} {h₁ : Heap} {tk : Nat} {l : Addr} {vs : List Value} {m : Str → Option Value} {o1 o2 : Obj} {c1 c2 : Option Value}
    (X : (hd.heap_39 w.params).In s₁.heap) (T : Top hd.view_39 loose mean mg mb s₁.heap) (hl : s₁.heap.IsList l (List.toArray vs)) (hI : IntsAre vs ns) (F : Fr s₁.heap s₁.heap.objs.size h₁ m) (hm : m (Str.ofString "script") = some (.ref l))
    (N : News s₁.heap s₁.heap.objs.size h₁ [(s₁.heap.objs.size + 1 + 1, o1), (s₁.heap.objs.size + 1, o2)]) (e1 : o1.data = .cell c1) (e2 : o2.data = .cell c2) :
    wpAny (model PySem.Challenge.rw_om0036_01.row.prog w) (callerA.deeper (envOfC name scope s₁.heap.objs.size fa cd)) (execs body (envOfC name scope s₁.heap.objs.size fa cd)) (fun f s' => f = .ret (.bool true) ∧ ∃ h tk m, s' = { s₁ with heap := h, toks := tk } ∧ Fr s₁.heap s₁.heap.objs.size h m) (fun _ _ => False) { s₁ with heap := h₁, toks := tk } := by
  refine law_runs ok hns hlk loose mean mg mb fa cd s₁.heap h₁ s₁.heap.objs.size l vs s₁ tk _ (below_caller _) X T hl hI ⟨?_, m, F.ns, hm⟩ fun h tk m F => ⟨rfl, h, tk, m, rfl, F⟩
  refine (FP.enter (lv := []) (nms := [(Str.ofString "name", s₁.heap.objs.size + 1 + 1), (Str.ofString "numbers", s₁.heap.objs.size + 1)]) (cv := []) (G := []) F (fun p hp => by cases hp) (fun x d e => by cases e) N (fun x c hx => ?_) (fun x c x' hx hx' => ?_) (fun x c d e => by cases e)).1
  · simp only [List.mem_cons, List.not_mem_nil, or_false, Prod.mk.injEq] at hx
    rcases hx with ⟨q1, q2⟩ | ⟨q1, q2⟩
    · exact ⟨o1, c1, by rw [q2]; exact .head _, e1⟩
    · exact ⟨o2, c2, by rw [q2]; exact .tail _ (.head _), e2⟩
  · simp only [List.mem_cons, List.not_mem_nil, or_false, Prod.mk.injEq] at hx hx'
    rcases hx with ⟨q1, q2⟩ | ⟨q1, q2⟩ <;> rcases hx' with ⟨r1, r2⟩ | ⟨r1, r2⟩
    · rw [q1, r1]
    · exact absurd (q2.symm.trans r2) (Nat.succ_ne_self _)
    · exact absurd (r2.symm.trans q2) (Nat.succ_ne_self _)
    · rw [q1, r1]
end Mine
end

section
open PySem PySem.W PyProof.Rows PySem.Calls
set_option Elab.async false
set_option maxRecDepth 100000
set_option linter.all false
set_option maxHeartbeats 400000
set_option pp.deepTerms.threshold 8
set_option pp.deepTerms false
set_option pp.proofs.threshold 2
namespace Mine
theorem law_endE {w : World} {ns : List Int} (ok : LawOk ns) (hns : ns.length ≤ 63)
    {loose : List Str} {mean : ExcName → Option Value} {mg mb : Str → Option Value} {s₁ : Shared} {h₁ : Heap} {tk : Nat} {l : Addr} {vs : List Value} {m : Str → Option Value} {o1 o2 : Obj} {c1 c2 : Option Value}
    (X : (hd.heap_39 w.params).In s₁.heap) (T : Top hd.view_39 loose mean mg mb s₁.heap) (hl : s₁.heap.IsList l (List.toArray vs)) (hI : IntsAre vs ns) (F : Fr s₁.heap s₁.heap.objs.size h₁ m) 
    (N : News s₁.heap s₁.heap.objs.size h₁ [(s₁.heap.objs.size + 1 + 1, o1), (s₁.heap.objs.size + 1, o2)]) (e1 : o1.data = .cell c1) (e2 : o2.data = .cell c2)
    {A : Around} {ss : List Stmt} {env : Env} {R : Flow → Shared → Prop} {E : Value → Shared → Prop} (hm : m (Str.ofString "script") = some (.ref l)) (hg : s₁.gens = #[])
    (hA : A = callerA.deeper env)
    (hE : ∃ oc od name qual params body scope dV kV doc pm an cdv ct osl fa cd, (hd.heap_39 w.params).lookup 148 = some ⟨oc, od, .func (fnOf name qual params body scope dV kV doc pm an cdv ct), osl⟩ ∧ ss = body ∧ env = envOfC name scope s₁.heap.objs.size fa cd)
    (q : ∀ h tk m, Fr s₁.heap s₁.heap.objs.size h m → R (.ret (.bool true)) { s₁ with heap := h, toks := tk }) :
    wpAny (model PySem.Challenge.rw_om0036_01.row.prog w) A (execs ss env) R E { s₁ with heap := h₁, toks := tk } := by
  obtain ⟨oc, od, name, qual, params, body, scope, dV, kV, doc, pm, an, cdv, ct, osl, fa, cd, hlk, rfl, rfl⟩ := hE
  subst hA
  refine wpAny_mono (law_end ok hns hlk X T hl hI F hm N e1 e2) ?_ (fun _ _ q => q.elim)
  rintro f s' ⟨rfl, h, tk, m, rfl, F⟩
  exact q h tk m F
end Mine
end

section
open PySem PySem.W PyProof.Rows PySem.Calls PySem.SeqAt
set_option Elab.async false
set_option maxRecDepth 100000
set_option linter.all false
set_option maxHeartbeats 1000000
namespace Mine
theorem bitAnd_nat (k m : Nat) : Builtin.bitAnd (k : Int) (m : Int) = ((k &&& m : Nat) : Int) := by
  unfold Builtin.bitAnd
  simp
theorem bit_at (k i : Nat) : k &&& 2 ^ i = if (k / 2 ^ i) % 2 = 1 then 2 ^ i else 0 := by
  apply Nat.eq_of_testBit_eq
  intro j
  rw [Nat.testBit_and, Nat.testBit_two_pow]
  by_cases e : i = j
  · subst e
    rw [Nat.testBit_eq_decide_div_mod_eq]
    by_cases h : k / 2 ^ i % 2 = 1
    · rw [if_pos h, Nat.testBit_two_pow]; simp [h]
    · rw [if_neg h]; simp [h]
  · rw [decide_eq_false e, Bool.and_false]
    by_cases h : k / 2 ^ i % 2 = 1
    · rw [if_pos h, Nat.testBit_two_pow, decide_eq_false e]
    · rw [if_neg h, Nat.zero_testBit]
theorem bit_hit (k i : Nat) : decide (Builtin.bitAnd (k : Int) ((2 ^ i : Nat) : Int) = ((2 ^ i : Nat) : Int)) = decide ((k / 2 ^ i) % 2 = 1) := by
  rw [bitAnd_nat, bit_at]
  have h2 : 0 < 2 ^ i := Nat.two_pow_pos i
  by_cases h : k / 2 ^ i % 2 = 1
  · simp [h]
  · rw [if_neg h]
    have : ¬ ((0 : Nat) : Int) = ((2 ^ i : Nat) : Int) := by omega
    rw [decide_eq_false this, decide_eq_false h]
theorem bit2_hit (k i j m : Nat) (hm : m = 2 ^ i ||| 2 ^ j) (h1 : 0 ||| 2 ^ j ≠ m) (h2 : 2 ^ i ||| 0 ≠ m) (h3 : m ≠ 0) : decide (Builtin.bitAnd (k : Int) (m : Int) = (m : Int)) = (decide ((k / 2 ^ i) % 2 = 1) && decide ((k / 2 ^ j) % 2 = 1)) := by
  have e : k &&& m = (if (k / 2 ^ i) % 2 = 1 then 2 ^ i else 0) ||| (if (k / 2 ^ j) % 2 = 1 then 2 ^ j else 0) := by
    rw [hm, Nat.and_or_distrib_left, bit_at, bit_at]
  rw [bitAnd_nat, e]
  have c : ∀ a : Nat, decide (((a : Nat) : Int) = (m : Int)) = decide (a = m) := fun a => by congr 1; exact propext Int.ofNat_inj
  rw [c]
  by_cases a : k / 2 ^ i % 2 = 1 <;> by_cases b : k / 2 ^ j % 2 = 1
  · rw [if_pos a, if_pos b, decide_eq_true hm.symm, decide_eq_true a, decide_eq_true b]; rfl
  · rw [if_pos a, if_neg b, decide_eq_false h2, decide_eq_true a, decide_eq_false b]; rfl
  · rw [if_neg a, if_pos b, decide_eq_false h1, decide_eq_false a]; rfl
  · rw [if_neg a, if_neg b, decide_eq_false (by simpa using h3.symm), decide_eq_false a]; rfl
theorem fd (k m : Nat) (h : 0 < m := by decide) : ((k : Nat) : Int).fdiv ((m : Nat) : Int) = ((k / m : Nat) : Int) := by
  rw [Int.fdiv_eq_ediv_of_nonneg _ (by omega)]; rfl
theorem fmo (k m : Nat) : ((k : Nat) : Int).fmod ((m : Nat) : Int) = ((k % m : Nat) : Int) := by
  rw [Int.fmod_eq_emod_of_nonneg _ (by omega)]; rfl
theorem type_bits (k : Nat) (h : k < 65536) : k &&& 61440 = 4096 * (k / 4096) := by
  have e : 4096 * (k / 4096) = (k >>> 12) <<< 12 := by rw [Nat.shiftLeft_eq, Nat.shiftRight_eq_div_pow]; exact Nat.mul_comm _ _
  rw [e]
  apply Nat.eq_of_testBit_eq
  intro j
  rw [Nat.testBit_and, Nat.testBit_shiftLeft, Nat.testBit_shiftRight]
  have a : ∀ j < 16, Nat.testBit 61440 j = decide (12 ≤ j) := by decide
  by_cases c : j < 16
  · rw [a j c]
    by_cases d : 12 ≤ j
    · rw [Nat.add_sub_cancel' d, decide_eq_true d, Bool.and_true, Bool.true_and]
    · rw [decide_eq_false d, Bool.and_false, Bool.false_and]
  · have hj : 2 ^ 16 ≤ 2 ^ j := Nat.pow_le_pow_right (by decide) (Nat.le_of_not_lt c)
    have f : k.testBit j = false := Nat.testBit_lt_two_pow (Nat.lt_of_lt_of_le h hj)
    have d : 12 ≤ j := Nat.le_trans (by decide) (Nat.le_of_not_lt c)
    rw [Nat.add_sub_cancel' d, f, Bool.and_false, Bool.false_and]
theorem ty_fact (k : Nat) (h : k < 65536) (t a : Nat) (ht : t = 4096 * a) : decide (Builtin.bitAnd (k : Int) 61440 = (t : Int)) = decide ((k : Int).fdiv 4096 = (a : Int)) := by
  have e1 := bitAnd_nat k 61440
  rw [type_bits k h] at e1
  have e2 := fd k 4096
  have e1' : Builtin.bitAnd (k : Int) 61440 = ((4096 * (k / 4096) : Nat) : Int) := e1
  have e2' : (k : Int).fdiv 4096 = ((k / 4096 : Nat) : Int) := e2
  rw [e1', e2', ht]
  congr 1
  apply propext
  omega
theorem ch0 (k : Nat) (h : k < 65536) : fmCh k 0 = sg0 k := by
  show fmPick 0 (k : Int) [(40960, ⟨#[108]⟩), (49152, ⟨#[115]⟩), (32768, ⟨#[45]⟩), (24576, ⟨#[98]⟩), (16384, ⟨#[100]⟩), (8192, ⟨#[99]⟩), (4096, ⟨#[112]⟩)] = _
  have t1 := ty_fact k h 40960 10 (by decide)
  have t2 := ty_fact k h 49152 12 (by decide)
  have t3 := ty_fact k h 32768 8 (by decide)
  have t4 := ty_fact k h 24576 6 (by decide)
  have t5 := ty_fact k h 16384 4 (by decide)
  have t6 := ty_fact k h 8192 2 (by decide)
  have t7 := ty_fact k h 4096 1 (by decide)
  simp only [Int.cast_ofNat_Int] at t1 t2 t3 t4 t5 t6 t7
  unfold sg0
  simp only [fmPick, fmHit, if_true, t1, t2, t3, t4, t5, t6, t7, decide_eq_true_eq]
  have l1 : Str.ofString "l" = ⟨#[108]⟩ := by decide +kernel
  have l2 : Str.ofString "s" = ⟨#[115]⟩ := by decide +kernel
  have l3 : Str.ofString "-" = ⟨#[45]⟩ := by decide +kernel
  have l4 : Str.ofString "b" = ⟨#[98]⟩ := by decide +kernel
  have l5 : Str.ofString "d" = ⟨#[100]⟩ := by decide +kernel
  have l6 : Str.ofString "c" = ⟨#[99]⟩ := by decide +kernel
  have l7 : Str.ofString "p" = ⟨#[112]⟩ := by decide +kernel
  have l8 : Str.ofString "?" = ⟨#[63]⟩ := by decide +kernel
  rw [l1, l2, l3, l4, l5, l6, l7, l8]
end Mine
end

section
open PySem PySem.W PyProof.Rows PySem.Calls PySem.SeqAt
set_option Elab.async false
set_option maxRecDepth 100000
set_option linter.all false
set_option maxHeartbeats 1000000
namespace Mine
theorem one_ne_zero' : ¬ ((1 : Nat) = 0) := by decide
theorem succ_no (n : Nat) : ¬ (n + 1 = 0) := Nat.succ_ne_zero n
theorem dv (k a b c : Nat) (h : a * b = c) : k / a / b = k / c := by rw [Nat.div_div_eq_div_mul, h]
theorem gR (a : Nat) : (a / 4 % 2 = 1) ↔ (3 < ((a % 8 : Nat) : Int)) := by omega
theorem gB (a : Nat) : (a % 2 = 1) ↔ (((a % 2 : Nat) : Int) = 1) := ⟨fun h => congrArg Int.ofNat h, fun h => Int.ofNat.inj h⟩
theorem gX (a : Nat) : (a % 2 = 1) ↔ (((a % 8 % 2 : Nat) : Int) = 1) := by
  rw [Nat.mod_mod_of_dvd a (by decide : 2 ∣ 8)]; exact gB a
theorem gW (a : Nat) : (a / 2 % 2 = 1) ↔ (((a % 8 / 2 % 2 : Nat) : Int) = 1) := by
  rw [show a % 8 / 2 = a / 2 % 4 from Nat.mod_mul_right_div_self a 2 4, Nat.mod_mod_of_dvd (a / 2) (by decide : 2 ∣ 4)]; exact gB (a / 2)
theorem lt_lr : Str.ofString "r" = ⟨#[114]⟩ := by decide +kernel
theorem lt_lw : Str.ofString "w" = ⟨#[119]⟩ := by decide +kernel
theorem lt_ls : Str.ofString "s" = ⟨#[115]⟩ := by decide +kernel
theorem lt_us : Str.ofString "S" = ⟨#[83]⟩ := by decide +kernel
theorem lt_lx : Str.ofString "x" = ⟨#[120]⟩ := by decide +kernel
theorem lt_lt : Str.ofString "t" = ⟨#[116]⟩ := by decide +kernel
theorem lt_ut : Str.ofString "T" = ⟨#[84]⟩ := by decide +kernel
theorem lt_minus : Str.ofString "-" = ⟨#[45]⟩ := by decide +kernel
theorem sg3_0 (k : Nat) : sg3 (k : Int) 0 = ((k / 64 % 8 : Nat) : Int) := by
  unfold sg3
  have e : (8 : Int) ^ Int.toNat (sgK 0) = 64 := by decide
  rw [e]
  have e1 : (k : Int).fdiv 64 = ((k / 64 : Nat) : Int) := fd k 64
  rw [e1]
  exact fmo _ 8
theorem chR_0 (k : Nat) : fmCh k 1 = sgR k 0 := by
  show fmPick 1 (k : Int) [(256, ⟨#[114]⟩)] = _
  have h : decide (Builtin.bitAnd (k : Int) 256 = 256) = decide (k / 256 % 2 = 1) := bit_hit k 8
  unfold sgR
  rw [sg3_0, lt_lr, lt_minus]
  simp only [fmPick, fmHit, h, Nat.reduceEqDiff, if_false, decide_eq_true_eq, one_ne_zero', succ_no]
  have g : (k / 256 % 2 = 1) ↔ (3 < ((k / 64 % 8 : Nat) : Int)) := dv k 64 4 256 rfl ▸ gR (k / 64)
  simp only [g]
theorem chW_0 (k : Nat) : fmCh k 2 = sgW k 0 := by
  show fmPick 2 (k : Int) [(128, ⟨#[119]⟩)] = _
  have h : decide (Builtin.bitAnd (k : Int) 128 = 128) = decide (k / 128 % 2 = 1) := bit_hit k 7
  unfold sgW
  have e1 : ((k / 64 % 8 : Nat) : Int).fdiv 2 = ((k / 64 % 8 / 2 : Nat) : Int) := fd _ 2
  have e2 : ((k / 64 % 8 / 2 : Nat) : Int).fmod 2 = ((k / 64 % 8 / 2 % 2 : Nat) : Int) := fmo _ 2
  rw [sg3_0, e1, e2, lt_lw, lt_minus]
  simp only [fmPick, fmHit, h, Nat.reduceEqDiff, if_false, decide_eq_true_eq, one_ne_zero', succ_no]
  have g : (k / 128 % 2 = 1) ↔ (((k / 64 % 8 / 2 % 2 : Nat) : Int) = 1) := dv k 64 2 128 rfl ▸ gW (k / 64)
  simp only [g]
theorem chX_0 (k : Nat) : fmCh k 3 = sgX k 0 := by
  show fmPick 3 (k : Int) [(2112, ⟨#[115]⟩), (2048, ⟨#[83]⟩), (64, ⟨#[120]⟩)] = _
  have h0 : decide (Builtin.bitAnd (k : Int) 2112 = 2112) = (decide (k / 2048 % 2 = 1) && decide (k / 64 % 2 = 1)) := bit2_hit k 11 6 2112 (by decide) (by decide) (by decide) (by decide)
  have h1 : decide (Builtin.bitAnd (k : Int) 2048 = 2048) = decide (k / 2048 % 2 = 1) := bit_hit k 11
  have h2 : decide (Builtin.bitAnd (k : Int) 64 = 64) = decide (k / 64 % 2 = 1) := bit_hit k 6
  unfold sgX
  have e0 : (2 : Int) ^ Int.toNat (sgK 0) = 4 := by decide
  have e1 : (k : Int).fdiv 512 = ((k / 512 : Nat) : Int) := fd _ 512
  have e2 : ((k / 512 : Nat) : Int).fdiv 4 = ((k / 512 / 4 : Nat) : Int) := fd _ 4
  have e3 : ((k / 512 / 4 : Nat) : Int).fmod 2 = ((k / 512 / 4 % 2 : Nat) : Int) := fmo _ 2
  have e4 : ((k / 64 % 8 : Nat) : Int).fmod 2 = ((k / 64 % 8 % 2 : Nat) : Int) := fmo _ 2
  have e5 : sgLo 0 = ⟨#[115]⟩ := lt_ls
  have e6 : sgUp 0 = ⟨#[83]⟩ := lt_us
  rw [sg3_0, e0, e1, e2, e3, e4, e5, e6, lt_lx, lt_minus]
  simp only [fmPick, fmHit, h0, h1, h2, Nat.reduceEqDiff, if_false, decide_eq_true_eq, Bool.and_eq_true, one_ne_zero', succ_no]
  have g1 : (k / 2048 % 2 = 1) ↔ (((k / 512 / 4 % 2 : Nat) : Int) = 1) := by rw [dv k 512 4 2048 rfl]; exact gB _
  have g2 : (k / 64 % 2 = 1) ↔ (((k / 64 % 8 % 2 : Nat) : Int) = 1) := gX _
  simp only [g1, g2]
  by_cases q1 : ((k / 512 / 4 % 2 : Nat) : Int) = 1 <;> by_cases q2 : ((k / 64 % 8 % 2 : Nat) : Int) = 1
  · rw [if_pos ⟨q1, q2⟩, if_pos q1, if_pos q2]
  · rw [if_neg (fun q => q2 q.2), if_pos q1, if_pos q1, if_neg q2]
  · rw [if_neg (fun q => q1 q.1), if_neg q1, if_pos q2, if_neg q1]
  · rw [if_neg (fun q => q1 q.1), if_neg q1, if_neg q2, if_neg q1]
theorem sg3_1 (k : Nat) : sg3 (k : Int) 1 = ((k / 8 % 8 : Nat) : Int) := by
  unfold sg3
  have e : (8 : Int) ^ Int.toNat (sgK 1) = 8 := by decide
  rw [e]
  have e1 : (k : Int).fdiv 8 = ((k / 8 : Nat) : Int) := fd k 8
  rw [e1]
  exact fmo _ 8
theorem chR_1 (k : Nat) : fmCh k 4 = sgR k 1 := by
  show fmPick 4 (k : Int) [(32, ⟨#[114]⟩)] = _
  have h : decide (Builtin.bitAnd (k : Int) 32 = 32) = decide (k / 32 % 2 = 1) := bit_hit k 5
  unfold sgR
  rw [sg3_1, lt_lr, lt_minus]
  simp only [fmPick, fmHit, h, Nat.reduceEqDiff, if_false, decide_eq_true_eq, one_ne_zero', succ_no]
  have g : (k / 32 % 2 = 1) ↔ (3 < ((k / 8 % 8 : Nat) : Int)) := dv k 8 4 32 rfl ▸ gR (k / 8)
  simp only [g]
theorem chW_1 (k : Nat) : fmCh k 5 = sgW k 1 := by
  show fmPick 5 (k : Int) [(16, ⟨#[119]⟩)] = _
  have h : decide (Builtin.bitAnd (k : Int) 16 = 16) = decide (k / 16 % 2 = 1) := bit_hit k 4
  unfold sgW
  have e1 : ((k / 8 % 8 : Nat) : Int).fdiv 2 = ((k / 8 % 8 / 2 : Nat) : Int) := fd _ 2
  have e2 : ((k / 8 % 8 / 2 : Nat) : Int).fmod 2 = ((k / 8 % 8 / 2 % 2 : Nat) : Int) := fmo _ 2
  rw [sg3_1, e1, e2, lt_lw, lt_minus]
  simp only [fmPick, fmHit, h, Nat.reduceEqDiff, if_false, decide_eq_true_eq, one_ne_zero', succ_no]
  have g : (k / 16 % 2 = 1) ↔ (((k / 8 % 8 / 2 % 2 : Nat) : Int) = 1) := dv k 8 2 16 rfl ▸ gW (k / 8)
  simp only [g]
theorem chX_1 (k : Nat) : fmCh k 6 = sgX k 1 := by
  show fmPick 6 (k : Int) [(1032, ⟨#[115]⟩), (1024, ⟨#[83]⟩), (8, ⟨#[120]⟩)] = _
  have h0 : decide (Builtin.bitAnd (k : Int) 1032 = 1032) = (decide (k / 1024 % 2 = 1) && decide (k / 8 % 2 = 1)) := bit2_hit k 10 3 1032 (by decide) (by decide) (by decide) (by decide)
  have h1 : decide (Builtin.bitAnd (k : Int) 1024 = 1024) = decide (k / 1024 % 2 = 1) := bit_hit k 10
  have h2 : decide (Builtin.bitAnd (k : Int) 8 = 8) = decide (k / 8 % 2 = 1) := bit_hit k 3
  unfold sgX
  have e0 : (2 : Int) ^ Int.toNat (sgK 1) = 2 := by decide
  have e1 : (k : Int).fdiv 512 = ((k / 512 : Nat) : Int) := fd _ 512
  have e2 : ((k / 512 : Nat) : Int).fdiv 2 = ((k / 512 / 2 : Nat) : Int) := fd _ 2
  have e3 : ((k / 512 / 2 : Nat) : Int).fmod 2 = ((k / 512 / 2 % 2 : Nat) : Int) := fmo _ 2
  have e4 : ((k / 8 % 8 : Nat) : Int).fmod 2 = ((k / 8 % 8 % 2 : Nat) : Int) := fmo _ 2
  have e5 : sgLo 1 = ⟨#[115]⟩ := lt_ls
  have e6 : sgUp 1 = ⟨#[83]⟩ := lt_us
  rw [sg3_1, e0, e1, e2, e3, e4, e5, e6, lt_lx, lt_minus]
  simp only [fmPick, fmHit, h0, h1, h2, Nat.reduceEqDiff, if_false, decide_eq_true_eq, Bool.and_eq_true, one_ne_zero', succ_no]
  have g1 : (k / 1024 % 2 = 1) ↔ (((k / 512 / 2 % 2 : Nat) : Int) = 1) := by rw [dv k 512 2 1024 rfl]; exact gB _
  have g2 : (k / 8 % 2 = 1) ↔ (((k / 8 % 8 % 2 : Nat) : Int) = 1) := gX _
  simp only [g1, g2]
  by_cases q1 : ((k / 512 / 2 % 2 : Nat) : Int) = 1 <;> by_cases q2 : ((k / 8 % 8 % 2 : Nat) : Int) = 1
  · rw [if_pos ⟨q1, q2⟩, if_pos q1, if_pos q2]
  · rw [if_neg (fun q => q2 q.2), if_pos q1, if_pos q1, if_neg q2]
  · rw [if_neg (fun q => q1 q.1), if_neg q1, if_pos q2, if_neg q1]
  · rw [if_neg (fun q => q1 q.1), if_neg q1, if_neg q2, if_neg q1]
theorem sg3_2 (k : Nat) : sg3 (k : Int) 2 = ((k / 1 % 8 : Nat) : Int) := by
  unfold sg3
  have e : (8 : Int) ^ Int.toNat (sgK 2) = 1 := by decide
  rw [e]
  have e1 : (k : Int).fdiv 1 = ((k / 1 : Nat) : Int) := fd k 1
  rw [e1]
  exact fmo _ 8
theorem chR_2 (k : Nat) : fmCh k 7 = sgR k 2 := by
  show fmPick 7 (k : Int) [(4, ⟨#[114]⟩)] = _
  have h : decide (Builtin.bitAnd (k : Int) 4 = 4) = decide (k / 4 % 2 = 1) := bit_hit k 2
  unfold sgR
  rw [sg3_2, lt_lr, lt_minus]
  simp only [fmPick, fmHit, h, Nat.reduceEqDiff, if_false, decide_eq_true_eq, one_ne_zero', succ_no]
  have g : (k / 4 % 2 = 1) ↔ (3 < ((k / 1 % 8 : Nat) : Int)) := dv k 1 4 4 rfl ▸ gR (k / 1)
  simp only [g]
theorem chW_2 (k : Nat) : fmCh k 8 = sgW k 2 := by
  show fmPick 8 (k : Int) [(2, ⟨#[119]⟩)] = _
  have h : decide (Builtin.bitAnd (k : Int) 2 = 2) = decide (k / 2 % 2 = 1) := bit_hit k 1
  unfold sgW
  have e1 : ((k / 1 % 8 : Nat) : Int).fdiv 2 = ((k / 1 % 8 / 2 : Nat) : Int) := fd _ 2
  have e2 : ((k / 1 % 8 / 2 : Nat) : Int).fmod 2 = ((k / 1 % 8 / 2 % 2 : Nat) : Int) := fmo _ 2
  rw [sg3_2, e1, e2, lt_lw, lt_minus]
  simp only [fmPick, fmHit, h, Nat.reduceEqDiff, if_false, decide_eq_true_eq, one_ne_zero', succ_no]
  have g : (k / 2 % 2 = 1) ↔ (((k / 1 % 8 / 2 % 2 : Nat) : Int) = 1) := dv k 1 2 2 rfl ▸ gW (k / 1)
  simp only [g]
theorem chX_2 (k : Nat) : fmCh k 9 = sgX k 2 := by
  show fmPick 9 (k : Int) [(513, ⟨#[116]⟩), (512, ⟨#[84]⟩), (1, ⟨#[120]⟩)] = _
  have h0 : decide (Builtin.bitAnd (k : Int) 513 = 513) = (decide (k / 512 % 2 = 1) && decide (k / 1 % 2 = 1)) := bit2_hit k 9 0 513 (by decide) (by decide) (by decide) (by decide)
  have h1 : decide (Builtin.bitAnd (k : Int) 512 = 512) = decide (k / 512 % 2 = 1) := bit_hit k 9
  have h2 : decide (Builtin.bitAnd (k : Int) 1 = 1) = decide (k / 1 % 2 = 1) := bit_hit k 0
  unfold sgX
  have e0 : (2 : Int) ^ Int.toNat (sgK 2) = 1 := by decide
  have e1 : (k : Int).fdiv 512 = ((k / 512 : Nat) : Int) := fd _ 512
  have e2 : ((k / 512 : Nat) : Int).fdiv 1 = ((k / 512 / 1 : Nat) : Int) := fd _ 1
  have e3 : ((k / 512 / 1 : Nat) : Int).fmod 2 = ((k / 512 / 1 % 2 : Nat) : Int) := fmo _ 2
  have e4 : ((k / 1 % 8 : Nat) : Int).fmod 2 = ((k / 1 % 8 % 2 : Nat) : Int) := fmo _ 2
  have e5 : sgLo 2 = ⟨#[116]⟩ := lt_lt
  have e6 : sgUp 2 = ⟨#[84]⟩ := lt_ut
  rw [sg3_2, e0, e1, e2, e3, e4, e5, e6, lt_lx, lt_minus]
  simp only [fmPick, fmHit, h0, h1, h2, Nat.reduceEqDiff, if_false, decide_eq_true_eq, Bool.and_eq_true, one_ne_zero', succ_no]
  have g1 : (k / 512 % 2 = 1) ↔ (((k / 512 / 1 % 2 : Nat) : Int) = 1) := by rw [dv k 512 1 512 rfl]; exact gB _
  have g2 : (k / 1 % 2 = 1) ↔ (((k / 1 % 8 % 2 : Nat) : Int) = 1) := gX _
  simp only [g1, g2]
  by_cases q1 : ((k / 512 / 1 % 2 : Nat) : Int) = 1 <;> by_cases q2 : ((k / 1 % 8 % 2 : Nat) : Int) = 1
  · rw [if_pos ⟨q1, q2⟩, if_pos q1, if_pos q2]
  · rw [if_neg (fun q => q2 q.2), if_pos q1, if_pos q1, if_neg q2]
  · rw [if_neg (fun q => q1 q.1), if_neg q1, if_pos q2, if_neg q1]
  · rw [if_neg (fun q => q1 q.1), if_neg q1, if_neg q2, if_neg q1]
theorem fm_sg (b : Int) (h0 : 0 ≤ b) (h1 : b < 65536) : fm b = sgText b 3 := by
  obtain ⟨k, rfl⟩ := Int.eq_ofNat_of_zero_le h0
  have hk : k < 65536 := by omega
  unfold fm fmList
  show Txt.join _ [fmCh k 0, fmCh k 1, fmCh k 2, fmCh k 3, fmCh k 4, fmCh k 5, fmCh k 6, fmCh k 7, fmCh k 8, fmCh k 9] = _
  rw [ch0 k hk, chR_0, chW_0, chX_0, chR_1, chW_1, chX_1, chR_2, chW_2, chX_2]
  show _ = sg0 k ++ sgR k 0 ++ sgW k 0 ++ sgX k 0 ++ sgR k 1 ++ sgW k 1 ++ sgX k 1 ++ sgR k 2 ++ sgW k 2 ++ sgX k 2
  have e : Str.ofString "" = Str.empty := by decide +kernel
  rw [e]
  apply Str.ext'
  unfold Txt.join
  rw [StrLaws.glued_eq_join]
  simp [Str.join, Str.cps_append, Str.empty]
end Mine
end

section
open PySem PySem.W PyProof.Rows PySem.Calls PySem.SeqAt
set_option Elab.async false
set_option maxRecDepth 100000
set_option linter.all false
set_option maxHeartbeats 1000000
namespace Mine
/-- what is known of a name -/
structure NameFact (n : Str) : Prop where
  ex : ∃ (cs rs : List Nat) (c : Nat), n = ⟨cs.toArray⟩ ∧ Txt.replace n (Str.ofString "\"") (Str.ofString "\"\"") = ⟨rs.toArray⟩ ∧ Txt.count n (Str.ofString "\"") = (c : Int) ∧ rs.length = cs.length + c ∧ cs ≠ [] ∧
    (∀ rest, scan (rs ++ 34 :: 32 :: rest) = cs) ∧ scan (rs ++ [34]) = cs ∧ scan rs = cs
theorem nf {n : Str} (cs rs : List Nat) (c : Nat) (h1 : n = ⟨cs.toArray⟩) (h2 : Txt.replace n (Str.ofString "\"") (Str.ofString "\"\"") = ⟨rs.toArray⟩) (h3 : Txt.count n (Str.ofString "\"") = (c : Int)) (h4 : rs.length = cs.length + c) (h5 : cs ≠ []) (h6 : ∀ rest, scan (rs ++ 34 :: 32 :: rest) = cs) (h7 : scan (rs ++ [34]) = cs) (h8 : scan rs = cs) : NameFact n := ⟨⟨cs, rs, c, h1, h2, h3, h4, h5, h6, h7, h8⟩⟩
theorem nf1 : NameFact (Str.ofString "a\"b") := nf [97, 34, 98] [97, 34, 34, 98] 1 (by decide +kernel) (by decide +kernel) (by decide +kernel) rfl (by simp) (fun rest => by rfl) (by rfl) (by rfl)
theorem nf2 : NameFact (Str.ofString "\"") := nf [34] [34, 34] 1 (by decide +kernel) (by decide +kernel) (by decide +kernel) rfl (by simp) (fun rest => by rfl) (by rfl) (by rfl)
theorem nf3 : NameFact (Str.ofString "a") := nf [97] [97] 0 (by decide +kernel) (by decide +kernel) (by decide +kernel) rfl (by simp) (fun rest => by rfl) (by rfl) (by rfl)
theorem nf4 : NameFact (Str.ofString "ab\"\"") := nf [97, 98, 34, 34] [97, 98, 34, 34, 34, 34] 2 (by decide +kernel) (by decide +kernel) (by decide +kernel) rfl (by simp) (fun rest => by rfl) (by rfl) (by rfl)
theorem nf5 : NameFact (Str.ofString "b a") := nf [98, 32, 97] [98, 32, 97] 0 (by decide +kernel) (by decide +kernel) (by decide +kernel) rfl (by simp) (fun rest => by rfl) (by rfl) (by rfl)
theorem nf6 : NameFact (Str.ofString "a\" b") := nf [97, 34, 32, 98] [97, 34, 34, 32, 98] 1 (by decide +kernel) (by decide +kernel) (by decide +kernel) rfl (by simp) (fun rest => by rfl) (by rfl) (by rfl)
theorem nf_of {n : Str} (h : n ∈ names6) : NameFact n := by
  unfold names6 at h
  simp only [List.mem_cons, List.not_mem_nil, or_false] at h
  rcases h with rfl | rfl | rfl | rfl | rfl | rfl
  · exact nf1
  · exact nf2
  · exact nf3
  · exact nf4
  · exact nf5
  · exact nf6
theorem lc257 : (Str.ofString "257").cps.toList = [50, 53, 55] := by decide +kernel
theorem lcq : (Str.ofString " \"").cps.toList = [32, 34] := by decide +kernel
theorem lcqs : (Str.ofString "\" ").cps.toList = [34, 32] := by decide +kernel
theorem lcq1 : (Str.ofString "\"").cps.toList = [34] := by decide +kernel
theorem lce : (Str.ofString "").cps.toList = [] := by decide +kernel
theorem cps_app (a b : Str) : (a ++ b).cps.toList = a.cps.toList ++ b.cps.toList := by rw [Str.cps_append, Array.toList_append]
theorem slice_to3 {x : Str} {a b c : Nat} {T : List Nat} (h : x.cps.toList = a :: b :: c :: T) : Txt.slice x none (some 3) = ⟨#[a, b, c]⟩ := by
  have := StrLaws.sliceText_to (x := x) (j := 3) ⟨by decide, by rw [h]; simp only [List.length_cons]; omega⟩
  rw [h] at this
  exact this
theorem slice_35 {x : Str} {a b c d e : Nat} {T : List Nat} (h : x.cps.toList = a :: b :: c :: d :: e :: T) : Txt.slice x (some 3) (some 5) = ⟨#[d, e]⟩ := by
  have := StrLaws.sliceText_plain (x := x) (i := 3) (j := 5) ⟨by decide, by decide, by rw [h]; simp only [List.length_cons]; omega⟩
  rw [h] at this
  exact this
theorem slice_on {x : Str} {i : Nat} : Txt.slice x (some (i : Int)) none = ⟨(x.cps.toList.drop i).toArray⟩ := by
  by_cases hi : i ≤ x.cps.toList.length
  · have := StrLaws.sliceText_from (x := x) (i := (i : Int)) ⟨Int.natCast_nonneg _, Int.ofNat_le.mpr hi⟩
    have e : ((x.cps.toList.length : Int) - (i : Int)).toNat = x.cps.toList.length - i := Int.toNat_sub _ _
    rw [e, Int.toNat_natCast, List.take_of_length_le (by rw [List.length_drop]; exact Nat.le_refl _)] at this
    exact this
  · have e0 : Builtin.Str.strSliceIndices (some (i : Int)) none 1 x.length = Builtin.Str.strSliceIndices (some (x.length : Int)) none 1 x.length := by
      have hl : x.length = x.cps.toList.length := by simp [Str.length]
      have e1 : max (0 : Int) (min (i : Int) (x.length : Int)) = x.length := by rw [Int.min_eq_right (Int.ofNat_le.mpr (hl ▸ Nat.le_of_not_le hi)), Int.max_eq_right (Int.natCast_nonneg _)]
      have e2 : max (0 : Int) (min (x.length : Int) (x.length : Int)) = x.length := by rw [Int.min_eq_right (Int.le_refl _), Int.max_eq_right (Int.natCast_nonneg _)]
      have e3 : ¬ ((i : Int) < 0) := Int.not_lt.mpr (Int.natCast_nonneg _)
      have e4 : ¬ ((x.length : Int) < 0) := Int.not_lt.mpr (Int.natCast_nonneg _)
      simp only [Builtin.Str.strSliceIndices, e1, e2, e3, e4, if_false, show ((1 : Int) > 0) = True from by simp, if_true]
    have hs : Txt.slice x (some (i : Int)) none = Txt.slice x (some (x.length : Int)) none := by unfold Txt.slice; rw [e0]
    have hl : (x.length : Int) = ((x.cps.toList.length : Nat) : Int) := by simp [Str.length]
    rw [hs, hl]
    have := StrLaws.sliceText_from (x := x) (i := (x.cps.toList.length : Int)) ⟨Int.natCast_nonneg _, Int.le_refl _⟩
    rw [List.drop_of_length_le (Nat.le_of_not_le hi)]
    rw [Int.toNat_natCast, List.drop_of_length_le (Nat.le_refl _)] at this
    rw [List.take_nil] at this
    exact this
/-- a well formed reply -/
theorem tell_good {x n : Str} {T : List Nat} (h : x.cps.toList = 50 :: 53 :: 55 :: 32 :: 34 :: T) (hs : (⟨(scan T).toArray⟩ : Str) = n) : tellX x = some n := by
  unfold tellX
  rw [slice_to3 h, slice_35 h, if_neg, if_neg, h]
  · exact congrArg some hs
  · decide +kernel
  · decide +kernel
theorem tell_bad {x : Str} {a b c : Nat} {T : List Nat} (h : x.cps.toList = a :: b :: c :: T) (hs : ((⟨#[a, b, c]⟩ : Str) != Str.ofString "257") = true) : tellX x = none := by
  unfold tellX
  rw [slice_to3 h, if_pos hs]
theorem tell_empty {x : Str} {d e : Nat} {T : List Nat} (h : x.cps.toList = 50 :: 53 :: 55 :: d :: e :: T) (hs : ((⟨#[d, e]⟩ : Str) != Str.ofString " \"") = true) : tellX x = some (Str.ofString "") := by
  unfold tellX
  rw [slice_to3 h, slice_35 h, if_neg (by decide +kernel), if_pos hs]
structure RowFact (r : FRow) : Prop where
  k0 : 0 ≤ r.kind
  k7 : r.kind < 7
  nm : r.name ∈ names6
  b0 : 0 ≤ r.bits
  b1 : r.bits < 65536
section
variable {r : FRow}
theorem tell6 (h : r.kind = 6) : tellX (replyOf r) = none := by
  unfold replyOf
  rw [h]
  have h0 := Int.fmod_nonneg_of_pos r.more (show (0 : Int) < 4 by decide)
  have h1 := Int.fmod_lt_of_pos r.more (show (0 : Int) < 4 by decide)
  have c := fm4 r.more
  rcases c with c | c | c | c
  · rw [rp60 c]
    have e : (Str.ofString "550").cps.toList = [53, 53, 48] := by decide +kernel
    exact tell_bad (by simp only [cps_app, e, List.cons_append, List.nil_append]; rfl) (by decide +kernel)
  · rw [rp61 c]
    have e : (Str.ofString "157").cps.toList = [49, 53, 55] := by decide +kernel
    exact tell_bad (by simp only [cps_app, e, List.cons_append, List.nil_append]; rfl) (by decide +kernel)
  · rw [rp62 c]
    have e : (Str.ofString "227").cps.toList = [50, 50, 55] := by decide +kernel
    exact tell_bad (by simp only [cps_app, e, List.cons_append, List.nil_append]; rfl) (by decide +kernel)
  · rw [rp63 c]
    have e : (Str.ofString "256").cps.toList = [50, 53, 54] := by decide +kernel
    exact tell_bad (by simp only [cps_app, e, List.cons_append, List.nil_append]; rfl) (by decide +kernel)
theorem tell5 (h : r.kind = 5) : tellX (replyOf r) = some (Str.ofString "") := by
  unfold replyOf
  rw [h]
  have h0 := Int.fmod_nonneg_of_pos r.more (show (0 : Int) < 3 by decide)
  have h1 := Int.fmod_lt_of_pos r.more (show (0 : Int) < 3 by decide)
  have c := fm3 r.more
  rcases c with c | c | c
  · rw [rp50 c]
    have e : (Str.ofString " -\"").cps.toList = [32, 45, 34] := by decide +kernel
    exact tell_empty (by simp only [cps_app, lc257, e, List.cons_append, List.nil_append]; rfl) (by decide +kernel)
  · rw [rp51 c]
    have e : (Str.ofString "-\"").cps.toList = [45, 34] := by decide +kernel
    exact tell_empty (by simp only [cps_app, lc257, e, List.cons_append, List.nil_append]; rfl) (by decide +kernel)
  · rw [rp52 c]
    have e : (Str.ofString "  \"").cps.toList = [32, 32, 34] := by decide +kernel
    exact tell_empty (by simp only [cps_app, lc257, e, List.cons_append, List.nil_append]; rfl) (by decide +kernel)
theorem tell_rest (f : RowFact r) (h : r.kind < 5) : tellX (replyOf r) = some r.name ∧ restOf r r.name = (sideRow r).2 ∧ r.name ≠ Str.ofString "" := by
  obtain ⟨cs, rs, c, e1, e2, e3, e4, e5, e6, e7, e8⟩ := (nf_of f.nm).ex
  have hne : r.name ≠ Str.ofString "" := by
    intro q
    have := congrArg (fun s : Str => s.cps.toList) q
    rw [e1] at this
    simp only [lce] at this
    exact e5 this
  have hl : (r.name.length : Int) = (cs.length : Int) := by rw [e1]; simp [Str.length]
  have hidx : (7 + (r.name.length : Nat) + Txt.count r.name (Str.ofString "\"") : Int) = ((7 + rs.length : Nat) : Int) := by
    rw [e3, hl, e4]; omega
  have hn : (⟨cs.toArray⟩ : Str) = r.name := e1.symm
  have hrest : restOf r r.name = ⟨((replyOf r).cps.toList.drop (7 + rs.length)).toArray⟩ := by
    unfold restOf
    rw [hidx, slice_on]
  have k0 := f.k0
  by_cases h4 : r.kind = 4
  · have e : (replyOf r).cps.toList = 50 :: 53 :: 55 :: 32 :: 34 :: rs := by
      unfold replyOf
      rw [h4, rp4, e2]
      simp only [cps_app, lc257, lcq, lce, List.cons_append, List.nil_append, List.append_nil]
    refine ⟨tell_good e (by rw [e8]; exact hn), ?_, hne⟩
    rw [hrest, e, List.drop_of_length_le (by simp only [List.length_cons]; omega)]
    show _ = if 2 < r.kind then Str.ofString "" else sgText r.bits 3
    rw [if_pos (by omega)]
    decide +kernel
  · by_cases h3 : r.kind = 3
    · have e : (replyOf r).cps.toList = 50 :: 53 :: 55 :: 32 :: 34 :: (rs ++ [34]) := by
        unfold replyOf
        rw [h3, rp3, e2]
        simp only [cps_app, lc257, lcq, lcq1, List.cons_append, List.nil_append]
      refine ⟨tell_good e (by rw [e7]; exact hn), ?_, hne⟩
      rw [hrest, e, List.drop_of_length_le (by simp only [List.length_cons, List.length_append, List.length_nil]; omega)]
      show _ = if 2 < r.kind then Str.ofString "" else sgText r.bits 3
      rw [if_pos (by omega)]
      decide +kernel
    · have e : (replyOf r).cps.toList = 50 :: 53 :: 55 :: 32 :: 34 :: (rs ++ 34 :: 32 :: (fm r.bits).cps.toList) := by
        unfold replyOf
        rw [rpo (by omega) (by omega) h4 h3, e2]
        simp only [cps_app, lc257, lcq, lcqs, List.cons_append, List.nil_append]
      refine ⟨tell_good e (by rw [e6]; exact hn), ?_, hne⟩
      have e' : (replyOf r).cps.toList = (50 :: 53 :: 55 :: 32 :: 34 :: (rs ++ [34, 32])) ++ (fm r.bits).cps.toList := by
        rw [e]; simp
      rw [hrest, e', List.drop_left' (by simp only [List.length_cons, List.length_append, List.length_nil]; omega)]
      show _ = if 2 < r.kind then Str.ofString "" else sgText r.bits 3
      rw [if_neg (by omega), ← fm_sg r.bits f.b0 f.b1]
theorem heard_of (f : RowFact r) : heardD r = expD r := by
  have k0 := f.k0
  have k7 := f.k7
  unfold heardD expD
  by_cases h6 : r.kind = 6
  · rw [tell6 h6, if_pos h6]
  · rw [if_neg h6]
    by_cases h5 : r.kind = 5
    · rw [tell5 h5, if_pos h5]
    · rw [(tell_rest f (by omega)).1, if_neg h5]
theorem step_of (f : RowFact r) (S : List Row) : listStep S r = if r.kind < 5 then putS S (sideRow r).1 (sideRow r).2 else S := by
  have k0 := f.k0
  have k7 := f.k7
  unfold listStep
  by_cases h : r.kind < 5
  · obtain ⟨a, b, c⟩ := tell_rest f h
    rw [a, if_pos h]
    show (if r.name = Str.ofString "" then S else putS S r.name (restOf r r.name)) = _
    rw [if_neg c, b]; rfl
  · rw [if_neg h]
    by_cases h5 : r.kind = 5
    · rw [tell5 h5]; exact if_pos rfl
    · rw [tell6 (by omega)]
theorem list_side : ∀ (rows : List FRow), (∀ r ∈ rows, RowFact r) → ∀ S, rows.foldl listStep S = (sideOf rows).foldl (fun S p => putS S p.1 p.2) S
  | [], _, _ => rfl
  | r :: rows, h, S => by
    rw [List.foldl_cons, step_of (h r (.head _)), list_side rows fun r hr => h r (.tail _ hr)]
    unfold sideOf
    rw [List.filter_cons]
    by_cases c : r.kind < 5
    · rw [if_pos c, if_pos (by simpa using c), List.map_cons, List.foldl_cons]
    · rw [if_neg c, if_neg (by simpa using c)]
end
end Mine
end

section
open PySem PySem.W PyProof.Rows PySem.Calls PySem.SeqAt
set_option Elab.async false
set_option maxRecDepth 100000
set_option linter.all false
set_option maxHeartbeats 1000000
namespace Mine
theorem slt_irr (a : Str) : slt a a = false := by
  unfold slt
  exact decide_eq_false (List.lt_irrefl _)
theorem slt_asym {a b : Str} (h : slt a b = true) : slt b a = false := by
  unfold slt at h ⊢
  exact decide_eq_false (List.lt_asymm (of_decide_eq_true h))
theorem slt_trans {a b c : Str} (h : slt a b = true) (g : slt b c = true) : slt a c = true := by
  unfold slt at h g ⊢
  exact decide_eq_true (List.lt_trans (of_decide_eq_true h) (of_decide_eq_true g))
theorem slt_total {a b : Str} (h : slt a b = false) (g : slt b a = false) : a = b := by
  unfold slt at h g
  have h' := List.not_lt.mp (of_decide_eq_false h)
  have g' := List.not_lt.mp (of_decide_eq_false g)
  have e : a.cps.toList = b.cps.toList := List.le_antisymm g' h'
  exact Str.ext' (Array.toList_inj.mp e)
theorem slt_ne {a b : Str} (h : slt a b = true) : a ≠ b := by
  intro e; (first | exact noAt e h slt_irr | exact noIs e h slt_irr | exact (noAt e h slt_irr).elim | exact (noIs e h slt_irr).elim | (rw [e, slt_irr] at h; cases h))
theorem rlt_name {a b : Row} (h : slt a.1 b.1 = true) : rlt a b = true := by
  unfold rlt
  rw [if_neg (slt_ne h), h]
theorem rlt_irr (a : Row) : rlt a a = false := by unfold rlt; simp
theorem rlt_asym {a b : Row} (h : rlt a b = true) : rlt b a = false := by
  unfold rlt at h ⊢
  by_cases e : a.1 = b.1
  · rw [if_pos e] at h
    rw [if_pos e.symm]
    by_cases e2 : a.2 = b.2
    · rw [if_pos e2] at h; cases h
    · rw [if_neg e2] at h
      rw [if_neg (Ne.symm e2)]
      exact slt_asym h
  · rw [if_neg e] at h
    rw [if_neg (Ne.symm e)]
    exact slt_asym h
theorem rlt_total {a b : Row} (h : rlt a b = false) (g : rlt b a = false) : a = b := by
  unfold rlt at h g
  by_cases e : a.1 = b.1
  · rw [if_pos e] at h
    rw [if_pos e.symm] at g
    by_cases e2 : a.2 = b.2
    · exact Prod.ext e e2
    · rw [if_neg e2] at h
      rw [if_neg (Ne.symm e2)] at g
      exact absurd (slt_total h g) e2
  · rw [if_neg e] at h
    rw [if_neg (Ne.symm e)] at g
    exact absurd (slt_total h g) e
theorem rlt_trans {a b c : Row} (h : rlt a b = true) (g : rlt b c = true) : rlt a c = true := by
  unfold rlt at h g ⊢
  by_cases e : a.1 = b.1
  · rw [if_pos e] at h
    by_cases e2 : a.2 = b.2
    · rw [if_pos e2] at h; cases h
    · rw [if_neg e2] at h
      rw [e]
      by_cases f : b.1 = c.1
      · rw [if_pos f] at g ⊢
        by_cases f2 : b.2 = c.2
        · rw [if_pos f2] at g; cases g
        · rw [if_neg f2] at g
          have := slt_trans h g
          rw [if_neg (slt_ne this), this]
      · rw [if_neg f] at g ⊢
        exact g
  · rw [if_neg e] at h
    by_cases f : b.1 = c.1
    · rw [← f, if_neg e, h]
    · rw [if_neg f] at g
      have := slt_trans h g
      rw [if_neg (slt_ne this), this]
theorem rlt_ne {a b : Row} (h : rlt a b = true) : a ≠ b := by
  intro e; (first | exact noAt e h rlt_irr | exact noIs e h rlt_irr | exact (noAt e h rlt_irr).elim | exact (noIs e h rlt_irr).elim | (rw [e, rlt_irr] at h; cases h))
theorem drop_no {x : Row} : ∀ {xs : List Row}, (∀ z ∈ xs, z ≠ x) → xs.dropWhile (fun z => decide (z = x)) = xs
  | [], _ => rfl
  | y :: ys, h => by
    rw [List.dropWhile_cons]
    have : decide (y = x) = false := decide_eq_false (h y (.head _))
    rw [this]; rfl
/-- the first list's head stands alone -/
theorem sld_l {x : Row} {xs ys : List Row} (h : ∀ y ∈ ys, rlt x y = true) (hx : ∀ z ∈ xs, z ≠ x) : sldP (x :: xs) ys = (x :: (sldP xs ys).1, (sldP xs ys).2) := by
  cases ys with
  | nil => rw [sldP_nilR, sldP_nilR]
  | cons y ys =>
    rw [sldP]
    rw [show rlt x y = true from h y (.head _)]
    rw [if_pos rfl, drop_no hx]
theorem sld_r {y : Row} {xs ys : List Row} (h : ∀ x ∈ xs, rlt y x = true) (hy : ∀ z ∈ ys, z ≠ y) : sldP xs (y :: ys) = ((sldP xs ys).1, y :: (sldP xs ys).2) := by
  cases xs with
  | nil => rw [sldP_nil, sldP_nil]
  | cons x xs =>
    have := h x (.head _)
    rw [sldP, rlt_asym this, this, if_neg (by simp), if_pos rfl, drop_no hy]
theorem sld_e {x : Row} {xs ys : List Row} (hx : ∀ z ∈ xs, z ≠ x) (hy : ∀ z ∈ ys, z ≠ x) : sldP (x :: xs) (x :: ys) = sldP xs ys := by
  rw [sldP, rlt_irr, if_neg (by simp), if_neg (by simp), drop_no hx, drop_no hy]
/-- the rows that v gives to the names -/
def ownL (N : List Str) (v : Str → Option Str) : List Row := N.filterMap fun n => (v n).map fun s => (n, s)
def diffL (N : List Str) (v w : Str → Option Str) : List Row := N.filterMap fun n => if v n = w n then none else (v n).map fun s => (n, s)
def dueL (N : List Str) (v w : Str → Option Str) : List Dat := N.flatMap fun n => if v n = w n then [] else [.list [.str n, optD (v n), optD (w n)]]
theorem ownL_mem {N : List Str} {v : Str → Option Str} {r : Row} (h : r ∈ ownL N v) : r.1 ∈ N ∧ v r.1 = some r.2 := by
  unfold ownL at h
  obtain ⟨n, hn, e⟩ := List.mem_filterMap.mp h
  obtain ⟨s, es, rfl⟩ := Option.map_eq_some_iff.mp e
  exact ⟨hn, es⟩
theorem diffL_mem {N : List Str} {v w : Str → Option Str} {r : Row} (h : r ∈ diffL N v w) : r.1 ∈ N ∧ v r.1 = some r.2 := by
  unfold diffL at h
  obtain ⟨n, hn, e⟩ := List.mem_filterMap.mp h
  split at e
  · cases e
  · obtain ⟨s, es, rfl⟩ := Option.map_eq_some_iff.mp e
    exact ⟨hn, es⟩
theorem ownL_cons (n : Str) (N : List Str) (v : Str → Option Str) : ownL (n :: N) v = (match v n with | none => ownL N v | some s => (n, s) :: ownL N v) := by
  unfold ownL
  rw [List.filterMap_cons]
  cases v n <;> rfl
theorem sld_own (v w : Str → Option Str) : ∀ (N : List Str), N.Pairwise (fun a b => slt a b = true) → sldP (ownL N v) (ownL N w) = (diffL N v w, diffL N w v)
  | [], _ => by
    show sldP [] [] = _
    rw [sldP_nil]; rfl
  | n :: N, h => by
    obtain ⟨h1, h2⟩ := List.pairwise_cons.mp h
    have ih := sld_own v w N h2
    have up : ∀ (u : Str → Option Str) (s : Str), ∀ r ∈ ownL N u, rlt (n, s) r = true := fun u s r hr => rlt_name (h1 _ (ownL_mem hr).1)
    have ne : ∀ (u : Str → Option Str) (s : Str), ∀ r ∈ ownL N u, r ≠ (n, s) := fun u s r hr e => (rlt_ne (up u s r hr)) e.symm
    rw [ownL_cons, ownL_cons]
    have d1 : diffL (n :: N) v w = (if v n = w n then none else (v n).map fun s => (n, s)).toList ++ diffL N v w := by
      unfold diffL
      rw [List.filterMap_cons]
      split <;> rename_i e <;> rw [e] <;> rfl
    have d2 : diffL (n :: N) w v = (if w n = v n then none else (w n).map fun s => (n, s)).toList ++ diffL N w v := by
      unfold diffL
      rw [List.filterMap_cons]
      split <;> rename_i e <;> rw [e] <;> rfl
    rw [d1, d2]
    cases ev : v n with
    | none =>
      cases ew : w n with
      | none => simpa using ih
      | some b =>
        show sldP (ownL N v) ((n, b) :: ownL N w) = _
        rw [sld_r (up v b) (ne w b), ih]
        simp
    | some a =>
      cases ew : w n with
      | none =>
        show sldP ((n, a) :: ownL N v) (ownL N w) = _
        rw [sld_l (up w a) (ne v a), ih]
        simp
      | some b =>
        show sldP ((n, a) :: ownL N v) ((n, b) :: ownL N w) = _
        by_cases e : a = b
        · subst e
          rw [sld_e (ne v a) (ne w a), ih]
          simp
        · have hab : (some a : Option Str) ≠ some b := fun q => e (Option.some.inj q)
          rw [if_neg hab, if_neg (Ne.symm hab)]
          cases l : slt a b with
          | true =>
            have r1 : rlt (n, a) (n, b) = true := by unfold rlt; rw [if_pos rfl, if_neg e]; exact l
            rw [sld_l (x := (n, a)) (fun y hy => (by
              rcases List.mem_cons.mp hy with rfl | q
              · exact r1
              · exact up w a y q)) (ne v a), sld_r (up v b) (ne w b), ih]
            rfl
          | false =>
            have l2 : slt b a = true := by
              cases q : slt b a with
              | true => rfl
              | false => exact absurd (slt_total l q) e
            have r1 : rlt (n, b) (n, a) = true := by unfold rlt; rw [if_pos rfl, if_neg (Ne.symm e)]; exact l2
            rw [sld_r (y := (n, b)) (fun y hy => (by
              rcases List.mem_cons.mp hy with rfl | q
              · exact r1
              · exact up v b y q)) (ne w b), sld_l (up w a) (ne v a), ih]
            rfl
theorem rep_own (v w : Str → Option Str) : ∀ (N : List Str), N.Pairwise (fun a b => slt a b = true) → reportP (diffL N v w) (diffL N w v) = dueL N v w
  | [], _ => rfl
  | n :: N, h => by
    obtain ⟨h1, h2⟩ := List.pairwise_cons.mp h
    have ih := rep_own v w N h2
    have d1 : diffL (n :: N) v w = (if v n = w n then none else (v n).map fun s => (n, s)).toList ++ diffL N v w := by
      unfold diffL
      rw [List.filterMap_cons]
      split <;> rename_i e <;> rw [e] <;> rfl
    have d2 : diffL (n :: N) w v = (if w n = v n then none else (w n).map fun s => (n, s)).toList ++ diffL N w v := by
      unfold diffL
      rw [List.filterMap_cons]
      split <;> rename_i e <;> rw [e] <;> rfl
    have d3 : dueL (n :: N) v w = (if v n = w n then [] else [.list [.str n, optD (v n), optD (w n)]]) ++ dueL N v w := by
      unfold dueL
      rw [List.flatMap_cons]
    rw [d1, d2, d3]
    by_cases e : v n = w n
    · rw [if_pos e, if_pos e.symm, if_pos e]
      simpa using ih
    · rw [if_neg e, if_neg (Ne.symm e), if_neg e]
      have up : ∀ (u u' : Str → Option Str), ∀ r ∈ diffL N u u', slt n r.1 = true := fun u u' r hr => h1 _ (diffL_mem hr).1
      cases ev : v n with
      | none =>
        cases ew : w n with
        | none => exact absurd (ev.trans ew.symm) e
        | some b =>
          show reportP (diffL N v w) ((n, b) :: diffL N w v) = .list [.str n, .none, .str b] :: dueL N v w
          have t : turnP (diffL N v w) ((n, b) :: diffL N w v) = 1 := by
            cases hd : diffL N v w with
            | nil => rfl
            | cons g gs =>
              have := up v w g (by rw [hd]; exact .head _)
              show b2i (slt n g.1) - b2i (slt g.1 n) = 1
              rw [this, slt_asym this]; rfl
          have lf : leftP (diffL N v w) ((n, b) :: diffL N w v) = false := by unfold leftP; rw [t]; rfl
          have rt : rightP (diffL N v w) ((n, b) :: diffL N w v) = true := by unfold rightP; rw [t]; rfl
          rw [reportP_step (.inr (by simp)), lf, rt]
          unfold repRow
          rw [lf, rt]
          simp only [if_true, Bool.false_eq_true, if_false, List.headD_cons, List.drop_one, List.tail_cons]
          rw [ih]
      | some a =>
        cases ew : w n with
        | none =>
          show reportP ((n, a) :: diffL N v w) (diffL N w v) = .list [.str n, .str a, .none] :: dueL N v w
          have t : turnP ((n, a) :: diffL N v w) (diffL N w v) = -1 := by
            cases hd : diffL N w v with
            | nil => rfl
            | cons g gs =>
              have := up w v g (by rw [hd]; exact .head _)
              show b2i (slt g.1 n) - b2i (slt n g.1) = -1
              rw [this, slt_asym this]; rfl
          have lf : leftP ((n, a) :: diffL N v w) (diffL N w v) = true := by unfold leftP; rw [t]; rfl
          have rt : rightP ((n, a) :: diffL N v w) (diffL N w v) = false := by unfold rightP; rw [t]; rfl
          rw [reportP_step (.inl (by simp)), lf, rt]
          unfold repRow
          rw [lf, rt]
          simp only [if_true, Bool.false_eq_true, if_false, List.headD_cons, List.drop_one, List.tail_cons]
          rw [ih]
        | some b =>
          show reportP ((n, a) :: diffL N v w) ((n, b) :: diffL N w v) = .list [.str n, .str a, .str b] :: dueL N v w
          have t : turnP ((n, a) :: diffL N v w) ((n, b) :: diffL N w v) = 0 := by
            show b2i (slt n n) - b2i (slt n n) = 0
            rw [slt_irr]; rfl
          have lf : leftP ((n, a) :: diffL N v w) ((n, b) :: diffL N w v) = true := by unfold leftP; rw [t]; rfl
          have rt : rightP ((n, a) :: diffL N v w) ((n, b) :: diffL N w v) = true := by unfold rightP; rw [t]; rfl
          rw [reportP_step (.inl (by simp)), lf, rt]
          unfold repRow
          rw [lf, rt]
          simp only [if_true, List.headD_cons, List.drop_one, List.tail_cons]
          rw [ih]
end Mine
end

section
open PySem PySem.W PyProof.Rows PySem.Calls PySem.SeqAt
set_option Elab.async false
set_option maxRecDepth 100000
set_option linter.all false
set_option maxHeartbeats 1000000
namespace Mine
theorem tri_cons (x : Row) (xs : List Row) : tri (x :: xs) = x :: x :: x :: tri xs := by unfold tri; rw [List.flatMap_cons]; rfl
theorem tri_mem {xs : List Row} {r : Row} (h : r ∈ tri xs) : r ∈ xs := by
  unfold tri at h
  obtain ⟨x, hx, e⟩ := List.mem_flatMap.mp h
  simp only [List.mem_cons, List.not_mem_nil, or_false, or_self] at e
  rw [e]; exact hx
theorem drop_tri {x : Row} {xs : List Row} (h : ∀ z ∈ xs, z ≠ x) : (x :: x :: tri xs).dropWhile (fun z => decide (z = x)) = tri xs := by
  rw [List.dropWhile_cons, if_pos (by simp), List.dropWhile_cons, if_pos (by simp)]
  exact drop_no fun z hz => h z (tri_mem hz)
theorem thr_cons (two : List Row) (x : Row) (xs : List Row) : thriceP (x :: xs) two = thrOf two x ++ thriceP xs two := by unfold thriceP; rw [List.flatMap_cons]
theorem thr_nil : ∀ xs : List Row, thriceP xs [] = tri xs
  | [] => rfl
  | x :: xs => by
    rw [thr_cons, tri_cons, thr_nil xs]
    rfl
theorem thr_congr {one two two' : List Row} (h : ∀ r ∈ one, thrOf two r = thrOf two' r) : thriceP one two = thriceP one two' := by
  induction one with
  | nil => rfl
  | cons x xs ih => rw [thr_cons, thr_cons, h x (.head _), ih fun r hr => h r (.tail _ hr)]
/-- behind a head that lies below r, r is answered alike -/
theorem thr_skip {x r : Row} {two : List Row} (h : rlt x r = true) : thrOf (x :: two) r = thrOf two r := by
  have e1 : (r ∈ x :: two) ↔ r ∈ two := by
    constructor
    · intro q
      rcases List.mem_cons.mp q with e | q
      · exact absurd e.symm (rlt_ne h)
      · exact q
    · exact List.mem_cons_of_mem _
  have e2 : lastLt (x :: two) r = lastLt two r := by
    cases two with
    | nil => exact h
    | cons y ys => unfold lastLt; rw [List.getLast?_cons_cons]
  unfold thrOf
  rw [e2]
  simp only [e1]
/-- r lies below all: answered once -/
theorem thr_one {r y : Row} {two : List Row} (h : ∀ z ∈ y :: two, rlt r z = true) : thrOf (y :: two) r = [r] := by
  have e1 : ¬ r ∈ y :: two := fun q => rlt_ne (h r q) rfl
  have e2 : lastLt (y :: two) r = false := by
    unfold lastLt
    cases q : (y :: two).getLast? with
    | none => rw [List.getLast?_eq_none_iff] at q; cases q
    | some l => exact rlt_asym (h l (List.mem_of_getLast? q))
  unfold thrOf
  rw [if_neg e1, e2]
  rfl
theorem sld_tri : ∀ (n : Nat) (xs ys : List Row), xs.length + ys.length ≤ n → xs.Pairwise (fun a b => rlt a b = true) → ys.Pairwise (fun a b => rlt a b = true) → sldP (tri xs) (tri ys) = (thriceP xs ys, thriceP ys xs)
  | n, [], ys, _, _, _ => by
    show sldP [] (tri ys) = _
    rw [sldP_nil, thr_nil]; rfl
  | n, x :: xs, [], _, _, _ => by
    show sldP (tri (x :: xs)) [] = _
    rw [sldP_nilR, thr_nil]; rfl
  | 0, x :: xs, y :: ys, h, _, _ => by simp at h
  | n + 1, x :: xs, y :: ys, h, hx, hy => by
    obtain ⟨hx1, hx2⟩ := List.pairwise_cons.mp hx
    obtain ⟨hy1, hy2⟩ := List.pairwise_cons.mp hy
    have nx : ∀ z ∈ xs, z ≠ x := fun z hz e => rlt_ne (hx1 z hz) e.symm
    have ny : ∀ z ∈ ys, z ≠ y := fun z hz e => rlt_ne (hy1 z hz) e.symm
    simp only [List.length_cons] at h
    rw [tri_cons, tri_cons, sldP]
    have dx : (x :: x :: tri xs).dropWhile (fun z => decide (z = x)) = tri xs := drop_tri nx
    have dy : (y :: y :: tri ys).dropWhile (fun z => decide (z = y)) = tri ys := drop_tri ny
    rw [dx, dy, ← tri_cons, ← tri_cons]
    cases c : rlt x y with
    | true =>
      rw [if_pos rfl, sld_tri n xs (y :: ys) (by simp only [List.length_cons]; omega) hx2 hy]
      rw [thr_cons (y :: ys) x xs]
      have all : ∀ z ∈ y :: ys, rlt x z = true := fun z hz => by
        rcases List.mem_cons.mp hz with rfl | q
        · exact c
        · exact rlt_trans c (hy1 z q)
      rw [thr_one all, thr_congr (one := y :: ys) (two := x :: xs) (two' := xs) fun r hr => thr_skip (all r hr)]
      rfl
    | false =>
      rw [if_neg (by simp)]
      cases c2 : rlt y x with
      | true =>
        rw [if_pos rfl, sld_tri n (x :: xs) ys (by simp only [List.length_cons]; omega) hx hy2]
        rw [thr_cons (x :: xs) y ys]
        have all : ∀ z ∈ x :: xs, rlt y z = true := fun z hz => by
          rcases List.mem_cons.mp hz with rfl | q
          · exact c2
          · exact rlt_trans c2 (hx1 z q)
        rw [thr_one all, thr_congr (one := x :: xs) (two := y :: ys) (two' := ys) fun r hr => thr_skip (all r hr)]
        rfl
      | false =>
        rw [if_neg (by simp)]
        obtain rfl := rlt_total c c2
        rw [sld_tri n xs ys (by omega) hx2 hy2]
        have e : ∀ zs : List Row, thrOf (x :: zs) x = [] := fun zs => if_pos (.head _)
        rw [thr_cons, thr_cons, e, e]
        rw [thr_congr (one := xs) (two := x :: ys) (two' := ys) fun r hr => thr_skip (hx1 r hr), thr_congr (one := ys) (two := x :: xs) (two' := xs) fun r hr => thr_skip (hy1 r hr)]
        rfl
theorem own_rise {N : List Str} (v : Str → Option Str) (h : N.Pairwise (fun a b => slt a b = true)) : (ownL N v).Pairwise (fun a b => rlt a b = true) := by
  induction N with
  | nil => exact .nil
  | cons n N ih =>
    obtain ⟨h1, h2⟩ := List.pairwise_cons.mp h
    rw [ownL_cons]
    cases v n with
    | none => exact ih h2
    | some s => exact .cons (fun r hr => rlt_name (h1 _ (ownL_mem hr).1)) (ih h2)
theorem names_rise : namesS.Pairwise (fun a b => slt a b = true) := by decide +kernel
end Mine
end

section
open PySem PySem.W PyProof.Rows PySem.Calls PySem.SeqAt
set_option Elab.async false
set_option maxRecDepth 100000
set_option linter.all false
set_option maxHeartbeats 1000000
namespace Mine
def addK (K : List Str) (k : Str) : List Str := if k ∈ K then K else K ++ [k]
def putF (S : List Row) (side : List Row) : List Row := side.foldl (fun S p => putS S p.1 p.2) S
def keyF (K : List Str) (side : List Row) : List Str := side.foldl (fun K p => addK K p.1) K
theorem signs_snoc (side : List Row) (p : Row) (n : Str) : signsFor (side ++ [p]) n = signsFor side n ++ (if p.1 = n then [p.2] else []) := by
  unfold signsFor
  rw [List.filter_append, List.map_append]
  congr 1
  rw [List.filter_cons]
  by_cases h : p.1 = n
  · rw [if_pos h, if_pos (by simpa using h)]; rfl
  · rw [if_neg h, if_neg (by simpa using h)]; rfl
theorem last_snoc (side : List Row) (p : Row) (n : Str) : lastS (side ++ [p]) n = if p.1 = n then some p.2 else lastS side n := by
  unfold lastS
  rw [signs_snoc]
  by_cases h : p.1 = n
  · rw [if_pos h, if_pos h, List.getLast?_append]; rfl
  · rw [if_neg h, if_neg h, List.append_nil]
def rowG (v : Str → Option Str) (k : Str) : Row := (k, (v k).getD (Str.ofString ""))
structure PInv (pre : List Row) (K : List Str) (S : List Row) : Prop where
  rows : S = K.map (rowG (lastS pre))
  has : ∀ k, k ∈ K ↔ (lastS pre k).isSome = true
theorem PInv.step {pre : List Row} {K : List Str} {S : List Row} (h : PInv pre K S) (p : Row) : PInv (pre ++ [p]) (addK K p.1) (putS S p.1 p.2) := by
  have hany : S.any (fun kv => decide (kv.1 = p.1)) = decide (p.1 ∈ K) := by
    rw [h.rows]
    by_cases q : p.1 ∈ K
    · rw [decide_eq_true q, List.any_eq_true]
      exact ⟨rowG (lastS pre) p.1, List.mem_map.mpr ⟨_, q, rfl⟩, by simp [rowG]⟩
    · rw [decide_eq_false q, List.any_eq_false]
      intro r hr e
      obtain ⟨k, hk, rfl⟩ := List.mem_map.mp hr
      have : k = p.1 := of_decide_eq_true e
      exact q (this ▸ hk)
  constructor
  · unfold putS addK
    rw [hany]
    by_cases q : p.1 ∈ K
    · rw [decide_eq_true q, if_pos rfl, if_pos q, h.rows, List.map_map]
      refine List.map_congr_left fun k hk => ?_
      show (if k = p.1 then (k, p.2) else rowG (lastS pre) k) = rowG (lastS (pre ++ [p])) k
      unfold rowG
      rw [last_snoc]
      by_cases e : k = p.1
      · rw [if_pos e, if_pos e.symm]; rfl
      · rw [if_neg e, if_neg (Ne.symm e)]
    · rw [decide_eq_false q, if_neg (by simp), if_neg q, h.rows, List.map_append]
      congr 1
      · refine List.map_congr_left fun k hk => ?_
        unfold rowG
        rw [last_snoc, if_neg (fun e : p.1 = k => q (e ▸ hk))]
      · show [(p.1, p.2)] = [rowG _ p.1]
        unfold rowG
        rw [last_snoc, if_pos rfl]; rfl
  · intro k
    rw [last_snoc]
    unfold addK
    by_cases e : p.1 = k
    · rw [if_pos e]
      subst e
      constructor
      · intro _; rfl
      · intro _
        split
        · assumption
        · exact List.mem_append.mpr (.inr (.head _))
    · rw [if_neg e, ← h.has k]
      split
      · exact Iff.rfl
      · rw [List.mem_append]
        simp only [List.mem_singleton]
        exact ⟨fun q => q.resolve_right (fun r => e r.symm), .inl⟩
theorem PInv.all : ∀ {side pre : List Row} {K : List Str} {S : List Row}, PInv pre K S → PInv (pre ++ side) (keyF K side) (putF S side)
  | [], pre, K, S, h => by rw [List.append_nil]; exact h
  | p :: side, pre, K, S, h => by
    have := (h.step p).all (side := side)
    rw [List.append_assoc] at this
    exact this
theorem PInv.nil : PInv [] [] [] := ⟨rfl, fun k => by simp [lastS, signsFor]⟩
def fK (K : List Str) (i j : Nat) : Option Bool := if i < K.length ∧ j < K.length then some (slt (K.getD i (Str.ofString "")) (K.getD j (Str.ofString ""))) else none
/-- the sort of the rows with these keys, by evaluation -/
def sortB (K : List Str) : Bool := match evalAsk (kas_sort K.length) (fK K) with
  | some p => (p.toList.map fun i => K.getD i (Str.ofString "")) == namesS.filter (fun n => K.contains n) && p.toList.all fun i => decide (i < K.length)
  | none => false
theorem getD_map {α β : Type} (g : α → β) (K : List α) (i : Nat) (a : α) (b : β) (h : i < K.length) : (K.map g).getD i b = g (K.getD i a) := by
  rw [List.getD_eq_getElem?_getD, List.getD_eq_getElem?_getD, List.getElem?_map, List.getElem?_eq_getElem h]; rfl
theorem sorts_of {K : List Str} (v : Str → Option Str) (h2 : 2 ≤ K.length) (h64 : K.length < 64) (hs : sortB K = true) : SortsTo (K.map (rowG v)) ((namesS.filter fun n => K.contains n).map (rowG v)) := by
  unfold sortB at hs
  split at hs
  · rename_i p he
    rw [Bool.and_eq_true, beq_iff_eq, List.all_eq_true] at hs
    obtain ⟨s1, s2⟩ := hs
    have s2' : ∀ i ∈ p.toList, i < K.length := fun i hi => of_decide_eq_true (s2 i hi)
    refine ⟨by rw [List.length_map]; exact h2, by rw [List.length_map]; exact h64, fK K, p, fun i j b e => ?_, by rw [List.length_map]; exact he, fun i hi => by rw [List.length_map]; exact s2' i hi, ?_⟩
    · unfold fK at e
      split at e
      · rename_i hij
        have gi : K.getD i (Str.ofString "") = K[i] := by rw [List.getD_eq_getElem?_getD, List.getElem?_eq_getElem hij.1]; rfl
        have gj : K.getD j (Str.ofString "") = K[j] := by rw [List.getD_eq_getElem?_getD, List.getElem?_eq_getElem hij.2]; rfl
        rw [gi, gj] at e
        refine ⟨rowG v K[i], rowG v K[j], by rw [List.getElem?_map, List.getElem?_eq_getElem hij.1]; rfl, by rw [List.getElem?_map, List.getElem?_eq_getElem hij.2]; rfl, ?_⟩
        rw [← Option.some.inj e]
        unfold rlt rowG
        simp only
        by_cases q : K[i] = K[j]
        · rw [if_pos q, q, if_pos rfl, slt_irr]
        · rw [if_neg q]
      · cases e
    · rw [← s1, List.map_map]
      exact List.map_congr_left fun i hi => getD_map _ _ _ _ _ (s2' i hi)
  · cases hs
theorem own_keys {v : Str → Option Str} {K : List Str} (h : ∀ k, k ∈ K ↔ (v k).isSome = true) : ∀ N : List Str, ownL N v = (N.filter fun n => K.contains n).map (rowG v)
  | [] => rfl
  | n :: N => by
    rw [ownL_cons, List.filter_cons]
    cases e : v n with
    | none =>
      have : ¬ K.contains n = true := by
        rw [List.contains_iff_mem, h n, e]; simp
      rw [if_neg this]
      exact own_keys h N
    | some s =>
      have : K.contains n = true := by
        rw [List.contains_iff_mem, h n, e]; rfl
      rw [if_pos this, List.map_cons]
      show (n, s) :: ownL N v = _
      rw [own_keys h N]
      congr 1
      unfold rowG
      rw [e]; rfl
theorem ownOf_eq (side : List Row) : ownOf side 6 = ownL namesS (lastS side) := rfl
theorem dueOf_eq (s0 s1 : List Row) : dueOf s0 s1 6 = dueL namesS (lastS s0) (lastS s1) := rfl
/-- one * 3 sorted -/
def f3 (k i j : Nat) : Option Bool := if i < 3 * k ∧ j < 3 * k then some (decide (i % k < j % k)) else none
def sort3B (k : Nat) : Bool := match evalAsk (kas_sort (3 * k)) (f3 k) with
  | some p => (p.toList.map fun i => i % k) == ((List.range k).flatMap fun a => [a, a, a]) && p.toList.all fun i => decide (i < 3 * k)
  | none => false
theorem flat3 (rs : List Row) : (List.replicate 3 rs).flatten = rs ++ (rs ++ rs) := by
  show rs ++ (rs ++ (rs ++ [])) = _
  rw [List.append_nil]
theorem flat3_len (rs : List Row) : ((List.replicate 3 rs).flatten).length = 3 * rs.length := by
  rw [flat3, List.length_append, List.length_append]; omega
theorem flat3_at (rs : List Row) (i : Nat) (h : i < 3 * rs.length) : ((List.replicate 3 rs).flatten)[i]? = rs[i % rs.length]? := by
  rw [flat3]
  by_cases h1 : i < rs.length
  · rw [List.getElem?_append_left h1, Nat.mod_eq_of_lt h1]
  · rw [List.getElem?_append_right (by omega)]
    by_cases h2 : i - rs.length < rs.length
    · rw [List.getElem?_append_left h2]
      congr 1
      rw [Nat.mod_eq_sub_mod (by omega), Nat.mod_eq_of_lt h2]
    · rw [List.getElem?_append_right (by omega)]
      congr 1
      rw [Nat.mod_eq_sub_mod (by omega), Nat.mod_eq_sub_mod (by omega), Nat.mod_eq_of_lt (by omega)]
theorem range_getD (d : Row) : ∀ rs : List Row, (List.range rs.length).map (fun i => rs.getD i d) = rs := by
  intro rs
  apply List.ext_getElem?
  intro i
  rw [List.getElem?_map]
  by_cases h : i < rs.length
  · rw [List.getElem?_range h, List.getElem?_eq_getElem h]
    show some (rs.getD i d) = _
    rw [List.getD_eq_getElem?_getD, List.getElem?_eq_getElem h]; rfl
  · rw [List.getElem?_eq_none (by rw [List.length_range]; omega), List.getElem?_eq_none (by omega)]; rfl
theorem tri_range (d : Row) (rs : List Row) : ((List.range rs.length).flatMap fun a => [a, a, a]).map (fun i => rs.getD i d) = tri rs := by
  rw [List.map_flatMap]
  show ((List.range rs.length).flatMap fun a => [rs.getD a d, rs.getD a d, rs.getD a d]) = _
  have : ((List.range rs.length).flatMap fun a => [rs.getD a d, rs.getD a d, rs.getD a d]) = ((List.range rs.length).map fun i => rs.getD i d).flatMap fun r => [r, r, r] := by
    rw [List.flatMap_map]
  rw [this, range_getD]; rfl
theorem rise_at {rs : List Row} (h : rs.Pairwise (fun a b => rlt a b = true)) {a b : Nat} {ra rb : Row} (ea : rs[a]? = some ra) (eb : rs[b]? = some rb) : rlt ra rb = decide (a < b) := by
  obtain ⟨ha, ea'⟩ := List.getElem?_eq_some_iff.mp ea
  obtain ⟨hb, eb'⟩ := List.getElem?_eq_some_iff.mp eb
  have hp := List.pairwise_iff_getElem.mp h
  by_cases c : a < b
  · rw [decide_eq_true c, ← ea', ← eb']
    exact hp a b ha hb c
  · rw [decide_eq_false c]
    by_cases d : b < a
    · have := hp b a hb ha d
      rw [ea', eb'] at this
      exact rlt_asym this
    · have : a = b := by omega
      subst this
      rw [← ea', ← eb']
      exact rlt_irr _
theorem sorts3_of {rs : List Row} (hr : rs.Pairwise (fun a b => rlt a b = true)) (h2 : 1 ≤ rs.length) (h64 : rs.length ≤ 20) (hs : sort3B rs.length = true) : SortsTo (List.replicate 3 rs).flatten (tri rs) := by
  unfold sort3B at hs
  split at hs
  · rename_i p he
    rw [Bool.and_eq_true, beq_iff_eq, List.all_eq_true] at hs
    obtain ⟨s1, s2⟩ := hs
    have s2' : ∀ i ∈ p.toList, i < 3 * rs.length := fun i hi => of_decide_eq_true (s2 i hi)
    refine ⟨by rw [flat3_len]; omega, by rw [flat3_len]; omega, f3 rs.length, p, fun i j b e => ?_, by rw [flat3_len]; exact he, fun i hi => by rw [flat3_len]; exact s2' i hi, ?_⟩
    · unfold f3 at e
      split at e
      · rename_i hij
        have hi := Nat.mod_lt i (show rs.length > 0 by omega)
        have hj := Nat.mod_lt j (show rs.length > 0 by omega)
        refine ⟨rs[i % rs.length], rs[j % rs.length], by rw [flat3_at _ _ hij.1, List.getElem?_eq_getElem hi], by rw [flat3_at _ _ hij.2, List.getElem?_eq_getElem hj], ?_⟩
        rw [← Option.some.inj e]
        exact rise_at hr (List.getElem?_eq_getElem hi) (List.getElem?_eq_getElem hj)
      · cases e
    · rw [← tri_range (Str.ofString "", Str.ofString "") rs, ← s1, List.map_map]
      refine List.map_congr_left fun i hi => ?_
      rw [List.getD_eq_getElem?_getD, flat3_at _ _ (s2' i hi)]
      show _ = rs.getD (i % rs.length) _
      rw [List.getD_eq_getElem?_getD]
  · cases hs
theorem s3_4 : sort3B 4 = true := by decide +kernel
theorem s3_5 : sort3B 5 = true := by decide +kernel
theorem s3_6 : sort3B 6 = true := by decide +kernel
end Mine
end

section
open PySem PySem.W PyProof.Rows PySem.Calls PySem.SeqAt
set_option Elab.async false
set_option maxRecDepth 100000
set_option linter.all false
set_option maxHeartbeats 1000000
namespace Mine
theorem rowF_fact (sv x : Int) : RowFact (rowF sv x) := by
  refine ⟨Int.fmod_nonneg_of_pos _ (by decide), Int.fmod_lt_of_pos _ (by decide), ?_, Int.fmod_nonneg_of_pos _ (by decide), Int.fmod_lt_of_pos _ (by decide)⟩
  show nameAt ((x.fdiv 3).fmod 6) ∈ names6
  have h0 := Int.fmod_nonneg_of_pos (x.fdiv 3) (show (0 : Int) < 6 by decide)
  have h1 := Int.fmod_lt_of_pos (x.fdiv 3) (show (0 : Int) < 6 by decide)
  have hl : ((x.fdiv 3).fmod 6).toNat < names6.length := by
    show _ < 6
    omega
  unfold nameAt
  rw [List.getD_eq_getElem?_getD, List.getElem?_eq_getElem hl]
  exact List.getElem_mem hl
theorem rows_fact {ns : List Int} {sv : Int} : ∀ r ∈ rowsOf ns sv, RowFact r := by
  intro r h
  unfold rowsOf at h
  obtain ⟨x, _, rfl⟩ := List.mem_map.mp h
  exact rowF_fact sv x
def sideN (ns : List Int) (sv : Int) : List Row := sideOf (rowsOf ns sv)
def fixSide (sv : Int) : List Row := sideOf ((drawn sv fixedNums).map (rowF sv))
theorem side_app (a b : List FRow) : sideOf (a ++ b) = sideOf a ++ sideOf b := by
  unfold sideOf
  rw [List.filter_append, List.map_append]
theorem sideN_eq (ns : List Int) (sv : Int) : sideN ns sv = fixSide sv ++ sideOf ((drawn sv (ns.take 4)).map (rowF sv)) := by
  unfold sideN fixSide rowsOf numsOf
  rw [← side_app, ← List.map_append]
  unfold drawn
  rw [List.filter_append]
theorem side_names {rows : List FRow} (h : ∀ r ∈ rows, RowFact r) : ∀ p ∈ sideOf rows, p.1 ∈ names6 := by
  intro p hp
  unfold sideOf at hp
  obtain ⟨r, hr, rfl⟩ := List.mem_map.mp hp
  exact (h r (List.mem_filter.mp hr).1).nm
def n1 : Str := Str.ofString "a\"b"
def n2 : Str := Str.ofString "\""
def n3 : Str := Str.ofString "a"
def n4 : Str := Str.ofString "ab\"\""
def n5 : Str := Str.ofString "b a"
def n6 : Str := Str.ofString "a\" b"
/-- the orders in which names can come -/
def K5 (sv : Int) : List (List Str) := if sv = 0 then [[n1, n2, n4, n6], [n1, n2, n4, n6, n3], [n1, n2, n4, n6, n5], [n1, n2, n4, n6, n3, n5], [n1, n2, n4, n6, n5, n3]] else [[n1, n3, n4, n5], [n1, n3, n4, n5, n2], [n1, n3, n4, n5, n6], [n1, n3, n4, n5, n2, n6], [n1, n3, n4, n5, n6, n2]]
theorem base0 : keyF [] (fixSide 0) ∈ K5 0 := by decide +kernel
theorem base1 : keyF [] (fixSide 1) ∈ K5 1 := by decide +kernel
theorem clos0 : ∀ K ∈ K5 0, ∀ n ∈ names6, addK K n ∈ K5 0 := by decide +kernel
theorem clos1 : ∀ K ∈ K5 1, ∀ n ∈ names6, addK K n ∈ K5 1 := by decide +kernel
theorem srt0 : ∀ K ∈ K5 0, sortB K = true := by decide +kernel
theorem srt1 : ∀ K ∈ K5 1, sortB K = true := by decide +kernel
theorem len0 : ∀ K ∈ K5 0, (2 ≤ K.length ∧ K.length < 64) ∧ ((namesS.filter fun n => K.contains n).length = 4 ∨ (namesS.filter fun n => K.contains n).length = 5 ∨ (namesS.filter fun n => K.contains n).length = 6) := by decide +kernel
theorem len1 : ∀ K ∈ K5 1, (2 ≤ K.length ∧ K.length < 64) ∧ ((namesS.filter fun n => K.contains n).length = 4 ∨ (namesS.filter fun n => K.contains n).length = 5 ∨ (namesS.filter fun n => K.contains n).length = 6) := by decide +kernel
theorem key_all {sv : Int} (hc : ∀ K ∈ K5 sv, ∀ n ∈ names6, addK K n ∈ K5 sv) : ∀ (side : List Row), (∀ p ∈ side, p.1 ∈ names6) → ∀ K ∈ K5 sv, keyF K side ∈ K5 sv
  | [], _, K, hK => hK
  | p :: side, h, K, hK => key_all hc side (fun p hp => h p (.tail _ hp)) _ (hc K hK p.1 (h p (.head _)))
theorem keys_in (ns : List Int) {sv : Int} (hsv : sv = 0 ∨ sv = 1) : keyF [] (sideN ns sv) ∈ K5 sv ∧ sortB (keyF [] (sideN ns sv)) = true ∧ (2 ≤ (keyF [] (sideN ns sv)).length ∧ (keyF [] (sideN ns sv)).length < 64) ∧
    ((namesS.filter fun n => (keyF [] (sideN ns sv)).contains n).length = 4 ∨ (namesS.filter fun n => (keyF [] (sideN ns sv)).contains n).length = 5 ∨ (namesS.filter fun n => (keyF [] (sideN ns sv)).contains n).length = 6) := by
  have hm : keyF [] (sideN ns sv) ∈ K5 sv := by
    rw [sideN_eq]
    unfold keyF
    rw [List.foldl_append]
    refine key_all (by rcases hsv with rfl | rfl; exact clos0; exact clos1) _ (side_names fun r hr => ?_) _ (by rcases hsv with rfl | rfl; exact base0; exact base1)
    obtain ⟨x, _, rfl⟩ := List.mem_map.mp hr
    exact rowF_fact sv x
  refine ⟨hm, ?_⟩
  rcases hsv with rfl | rfl
  · exact ⟨srt0 _ hm, len0 _ hm⟩
  · exact ⟨srt1 _ hm, len1 _ hm⟩
theorem inv_of (ns : List Int) (sv : Int) : PInv (sideN ns sv) (keyF [] (sideN ns sv)) (putF [] (sideN ns sv)) := PInv.nil.all
theorem listS_own (ns : List Int) (sv : Int) : listS ns sv = ownL namesS (lastS (sideN ns sv)) := rfl
theorem listS_keys (ns : List Int) (sv : Int) : listS ns sv = (namesS.filter fun n => (keyF [] (sideN ns sv)).contains n).map (rowG (lastS (sideN ns sv))) := by
  rw [listS_own]
  exact own_keys (inv_of ns sv).has namesS
theorem listP_eq (ns : List Int) (sv : Int) : listP (rowsOf ns sv) = (keyF [] (sideN ns sv)).map (rowG (lastS (sideN ns sv))) := by
  unfold listP
  rw [list_side _ rows_fact]
  exact (inv_of ns sv).rows
theorem sOk (c : Str) (h : PyData.strOk c = true := by decide +kernel) : PyData.strOk c = true := h
theorem ok_app {a b : Str} (ha : PyData.strOk a = true) (hb : PyData.strOk b = true) : PyData.strOk (a ++ b) = true := by
  unfold PyData.strOk at *
  rw [Str.cps_append, Array.all_append, ha, hb]; rfl
theorem ok_ite {p : Prop} [Decidable p] {a b : Str} (ha : PyData.strOk a = true) (hb : PyData.strOk b = true) : PyData.strOk (if p then a else b) = true := by
  split
  · exact ha
  · exact hb
theorem ok_sg0 (b : Int) : PyData.strOk (sg0 b) = true := by
  unfold sg0
  exact ok_ite (sOk _) (ok_ite (sOk _) (ok_ite (sOk _) (ok_ite (sOk _) (ok_ite (sOk _) (ok_ite (sOk _) (ok_ite (sOk _) (sOk _)))))))
theorem ok_lo (i : Nat) : PyData.strOk (sgLo i) = true := by
  unfold sgLo
  split <;> decide +kernel
theorem ok_up (i : Nat) : PyData.strOk (sgUp i) = true := by
  unfold sgUp
  split <;> decide +kernel
theorem ok_sg (b : Int) : ∀ i, PyData.strOk (sgText b i) = true
  | 0 => ok_sg0 b
  | i + 1 => by
    rw [sgText_s]
    refine ok_app (ok_app (ok_app (ok_sg b i) ?_) ?_) ?_
    · exact ok_ite (sOk _) (sOk _)
    · exact ok_ite (sOk _) (sOk _)
    · exact ok_ite (ok_ite (ok_lo i) (ok_up i)) (ok_ite (sOk _) (sOk _))
theorem ok_names6 : ∀ n ∈ names6, PyData.strOk n = true := by decide +kernel
theorem ok_namesS : ∀ n ∈ namesS, PyData.strOk n = true := by decide +kernel
theorem sz_names6 : ∀ n ∈ names6, n.length ≤ 8 ∧ (Txt.replace n (Str.ofString "\"") (Str.ofString "\"\"")).length ≤ 100 := by decide +kernel
theorem ok_last {rows : List FRow} {n s : Str} (h : lastS (sideOf rows) n = some s) : PyData.strOk s = true := by
  unfold lastS at h
  have hm := List.mem_of_getLast? h
  unfold signsFor at hm
  obtain ⟨p, hp, rfl⟩ := List.mem_map.mp hm
  have hp' := (List.mem_filter.mp hp).1
  unfold sideOf at hp'
  obtain ⟨r, _, rfl⟩ := List.mem_map.mp hp'
  exact ok_ite (sOk _) (ok_sg _ 3)
theorem ok_opt {rows : List FRow} (n : Str) (k : Nat) : okB k (optD (lastS (sideOf rows) n)) = true := by
  cases h : lastS (sideOf rows) n with
  | none => cases k <;> rfl
  | some s =>
    have := ok_last h
    cases k <;> exact this
theorem ok_row {r : Row} {rows : List FRow} (h : r.1 ∈ namesS ∧ lastS (sideOf rows) r.1 = some r.2) : rowOk r = true := by
  unfold rowOk
  rw [ok_namesS _ h.1, ok_last h.2]; rfl
theorem law_ok (ns : List Int) : LawOk ns where
  nm := fun sv r hr => sz_names6 _ (rows_fact r hr).nm
  heard := fun sv _ => List.map_congr_left fun r hr => heard_of (rows_fact r hr)
  sort := fun sv hsv => by
    obtain ⟨_, h1, h2, _⟩ := keys_in ns hsv
    rw [listP_eq, listS_keys]
    exact sorts_of _ h2.1 h2.2 h1
  sort3 := fun sv hsv => by
    obtain ⟨_, _, _, h3⟩ := keys_in ns hsv
    have hl : (listS ns sv).length = 4 ∨ (listS ns sv).length = 5 ∨ (listS ns sv).length = 6 := by
      rw [listS_keys, List.length_map]; exact h3
    refine sorts3_of (by rw [listS_own]; exact own_rise _ names_rise) (by omega) (by omega) ?_
    rcases hl with e | e | e <;> rw [e]
    · exact s3_4
    · exact s3_5
    · exact s3_6
  rep := by
    rw [listS_own, listS_own, sld_own _ _ _ names_rise, dueOf_eq]
    exact rep_own _ _ _ names_rise
  thr := by
    rw [listS_own, listS_own]
    exact sld_tri _ _ _ (Nat.le_refl _) (own_rise _ names_rise) (own_rise _ names_rise)
  ok := fun sv _ r hr => by
    rw [listS_own] at hr
    exact ok_row (ownL_mem hr)
  sld1 := fun r hr => by
    rw [listS_own, listS_own, sld_own _ _ _ names_rise] at hr
    exact ok_row (diffL_mem hr)
  sld2 := fun r hr => by
    rw [listS_own, listS_own, sld_own _ _ _ names_rise] at hr
    exact ok_row (diffL_mem hr)
  sldl := by
    rw [listS_own, listS_own, sld_own _ _ _ names_rise]
    have : ∀ v w : Str → Option Str, (diffL namesS v w).length ≤ 100 := fun v w => Nat.le_trans (List.length_filterMap_le _ _) (by decide)
    exact ⟨this _ _, this _ _⟩
  hok := fun sv _ => by
    show List.all ((rowsOf ns sv).map expD) (okB 7) = true
    rw [List.all_eq_true]
    intro d hd
    obtain ⟨r, hr, rfl⟩ := List.mem_map.mp hd
    unfold expD
    split
    · decide +kernel
    · have h1 : PyData.strOk (Str.ofString "told") = true := sOk _
      have h2 : PyData.strOk (if r.kind = 5 then Str.ofString "" else r.name) = true := ok_ite (sOk _) (ok_names6 _ (rows_fact r hr).nm)
      show List.all [Dat.str (Str.ofString "told"), Dat.str (if r.kind = 5 then Str.ofString "" else r.name)] (okB 6) = true
      simp [okB, h1, h2]
  due := by
    show List.all (dueOf _ _ 6) (okB 7) = true
    rw [List.all_eq_true]
    intro d hd
    rw [dueOf_eq] at hd
    unfold dueL at hd
    obtain ⟨n, hn, hd⟩ := List.mem_flatMap.mp hd
    split at hd
    · cases hd
    · simp only [List.mem_cons, List.not_mem_nil, or_false] at hd
      subst hd
      have h1 := ok_namesS n hn
      have h2 := ok_opt (rows := rowsOf ns 0) n 6
      have h3 := ok_opt (rows := rowsOf ns 1) n 6
      show List.all [Dat.str n, optD _, optD _] (okB 6) = true
      simp [h2, h3, okB, h1]
end Mine
end

theorem Mine.fresh_J0 : True := by
  w_top off
  k_with_none
  trivial
open PySem PySem.W PyProof.Rows PySem.Calls
set_option Elab.async false
set_option maxRecDepth 100000
set_option linter.all false
set_option maxHeartbeats 400000
set_option pp.deepTerms.threshold 8
set_option pp.deepTerms false
set_option pp.proofs.threshold 2
set_option maxHeartbeats 8000000 in
theorem PySem.Challenge.cw_om0036_01_holds : PySem.Challenge.rw_om0036_01.Holds := by
  w_on
  refine holds_law Mine.said0 fun said => ?_
  refine holds_open (q := Mine.hd.view_39) (loose := Mine.loose0) (Xt := Mine.xt0) (XP := XL Mine.hd.view_39 Mine.lv0) (Yf := Hook.obs Mine.hook0) (Ya := Hook.val Mine.hook0) (YP := Hook.says Mine.hook0) (N := 2418) Mine.left0 (Hook.of Mine.hook0) (Hook.keeps Mine.hook0) (fun s e => xl_of s (Bool.and_eq_true_iff.mp e).1) XL.keeps (by rfl) (by rfl) (by rfl) (fun s e => recFacts_of (Bool.and_eq_true_iff.mp e).2) (by rfl) said Mine.ok0 ⟨rfl, rfl, rfl, rfl, rfl, Mine.tables0⟩ ?hw ?hc
  case hw => w_witness2
  clear said
  k_fill
  intro w s₀ s₁ mg mb G Y fa o pm cd doc dV kV ho hd hcd hD hmg hg args vals as hpre hlay hrd hwl hlo
  have KX := kIn_of Y
  have X := (Ground.X G).1
  have V := (Ground.X G).2
  refine Ground.open G ?_
  intro T B D TE TW
  refine guard_noD D (by decide +kernel) ?_; clear D
  obtain ⟨_, _, M⟩ := bmod_of_top T
  have TA := at_of_top T
  obtain ⟨_, _, he, B0⟩ := based_of_top T rfl hmg ho hd
  have he' : cd = _ := he
  subst he'
  clear he
  clear hmg
  wrow_args hpre hlay hrd hwl hlo
  refine enter_call ?_
  w_top on
  try refine codeAny_mono ?_ (fun _ _ g => GoodW.toG g)
  have K0 := below_caller (Top.heap T)
  w_call any ho hd hcd hD T F
  clear hd TA
  k_drop
  (with_reducible rename IntsAre _ _ => hI); (with_reducible rename Heap.IsList _ _ _ => hL); (with_reducible rename Fr _ _ _ _ => hF); (with_reducible rename News _ _ _ _ => hN); (with_reducible rename Frag.In _ _ => hK); (with_reducible rename Top _ _ _ _ _ _ => hT); (with_reducible rename Obj.data _ = Data.cell _ => hc2); (with_reducible rename Shared.gens _ = _ => hg)
  revert hc2
  (with_reducible rename Obj.data _ = Data.cell _ => hc1)
  intro hc2
  (with_reducible rename Not _ => h63)
  replace h63 := Mine.le63 h63
  have key := fun A ss env R E (tk : Nat) hm hA hE q => Mine.law_endE (Mine.law_ok _) h63 hK hT hL hI hF hN hc1 hc2 (A := A) (ss := ss) (env := env) (R := R) (E := E) (tk := tk) hm hg hA hE q
  clear hF hN hc1 hc2
  refine key _ _ _ _ _ _ ?hm ?hA ?hE ?q
  case hm => rfl
  case hA => rfl
  case hE => exact ⟨_, _, _, _, _, _, _, _, _, _, _, _, _, _, _, _, _, by rfl, rfl, rfl⟩
  exact fun h tk m F => goodW_bool F hg (raisesW_false (by wrow_none_raised)) (by kc_post)
