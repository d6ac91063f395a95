import PyProof.Rows.All
import Wide.All
import OpenK.AllK
import Wide.FinOn
import PySem.Challenge.RW_ny0134_01
open PySem PySem.W PyProof.Rows
set_option rowWalk.seconds 0
set_option Elab.async false
set_option maxRecDepth 100000
set_option maxHeartbeats 0
namespace Mine
namespace H
theorem pwq : (Nat.ble 0 (List.length PySem.Challenge.pw_ny0134_01.main.body)) = true := by k_qdec
noncomputable def Q : Program := PySem.W.Fast.tw1737648781435215133
theorem pwQ : PySem.Challenge.pw_ny0134_01 = Q := PySem.W.Fast.te1737648781435215133
noncomputable def nthS (l : List Stmt) (n : Nat) : Stmt := @List.rec Stmt (fun _ => Nat → Stmt) (fun _ => .Pass ⟨0, 0, 0, 0⟩) (fun a _ ih n => @Nat.rec (fun _ => Stmt) a (fun m _ => ih m) n) l n
noncomputable def bq : List Stmt := behindTheImports Q
noncomputable def qs (i : Nat) : Stmt := nthS bq i
noncomputable def fA : Stmt → Arguments | .FunctionDef _ a _ _ _ _ _ _ _ _ => a | _ => ⟨[], [], none, [], [], none, []⟩
noncomputable def fB : Stmt → List Stmt | .FunctionDef _ _ b _ _ _ _ _ _ _ => b | _ => []
noncomputable def fC : Stmt → Scope | .FunctionDef _ _ _ _ _ _ c _ _ _ => c | _ => Q.main.scope
noncomputable def s_0 : Str := Str.mk (Array.mk [nat_lit 95, nat_lit 95, nat_lit 110, nat_lit 97, nat_lit 109, nat_lit 101, nat_lit 95, nat_lit 95])
noncomputable def s_1 : Str := Str.mk (Array.mk [nat_lit 98, nat_lit 117, nat_lit 105, nat_lit 108, nat_lit 116, nat_lit 105, nat_lit 110, nat_lit 115])
noncomputable def s_2 : Str := Str.mk (Array.mk [nat_lit 95, nat_lit 95, nat_lit 100, nat_lit 111, nat_lit 99, nat_lit 95, nat_lit 95])
noncomputable def s_3 : Str := Str.mk (Array.mk [nat_lit 95, nat_lit 95, nat_lit 112, nat_lit 97, nat_lit 99, nat_lit 107, nat_lit 97, nat_lit 103, nat_lit 101, nat_lit 95, nat_lit 95])
noncomputable def s_4 : Str := Str.mk (Array.mk [nat_lit 95, nat_lit 95, nat_lit 108, nat_lit 111, nat_lit 97, nat_lit 100, nat_lit 101, nat_lit 114, nat_lit 95, nat_lit 95])
noncomputable def s_5 : Str := Str.mk (Array.mk [nat_lit 95, nat_lit 95, nat_lit 115, nat_lit 112, nat_lit 101, nat_lit 99, nat_lit 95, nat_lit 95])
noncomputable def s_6 : Str := Str.mk (Array.mk [nat_lit 95, nat_lit 95, nat_lit 98, nat_lit 117, nat_lit 105, nat_lit 108, nat_lit 100, nat_lit 95, nat_lit 99, nat_lit 108, nat_lit 97, nat_lit 115, nat_lit 115, nat_lit 95, nat_lit 95])
noncomputable def s_7 : Str := Str.mk (Array.mk [nat_lit 95, nat_lit 95, nat_lit 105, nat_lit 109, nat_lit 112, nat_lit 111, nat_lit 114, nat_lit 116, nat_lit 95, nat_lit 95])
noncomputable def s_8 : Str := Str.mk (Array.mk [nat_lit 97, nat_lit 98, nat_lit 115])
noncomputable def s_9 : Str := Str.mk (Array.mk [nat_lit 97, nat_lit 108, nat_lit 108])
noncomputable def s_10 : Str := Str.mk (Array.mk [nat_lit 97, nat_lit 110, nat_lit 121])
noncomputable def s_11 : Str := Str.mk (Array.mk [nat_lit 97, nat_lit 115, nat_lit 99, nat_lit 105, nat_lit 105])
noncomputable def s_12 : Str := Str.mk (Array.mk [nat_lit 98, nat_lit 105, nat_lit 110])
noncomputable def s_13 : Str := Str.mk (Array.mk [nat_lit 98, nat_lit 114, nat_lit 101, nat_lit 97, nat_lit 107, nat_lit 112, nat_lit 111, nat_lit 105, nat_lit 110, nat_lit 116])
noncomputable def s_14 : Str := Str.mk (Array.mk [nat_lit 99, nat_lit 97, nat_lit 108, nat_lit 108, nat_lit 97, nat_lit 98, nat_lit 108, nat_lit 101])
noncomputable def s_15 : Str := Str.mk (Array.mk [nat_lit 99, nat_lit 104, nat_lit 114])
noncomputable def s_16 : Str := Str.mk (Array.mk [nat_lit 99, nat_lit 111, nat_lit 109, nat_lit 112, nat_lit 105, nat_lit 108, nat_lit 101])
noncomputable def s_17 : Str := Str.mk (Array.mk [nat_lit 100, nat_lit 101, nat_lit 108, nat_lit 97, nat_lit 116, nat_lit 116, nat_lit 114])
noncomputable def s_18 : Str := Str.mk (Array.mk [nat_lit 100, nat_lit 105, nat_lit 114])
noncomputable def s_19 : Str := Str.mk (Array.mk [nat_lit 100, nat_lit 105, nat_lit 118, nat_lit 109, nat_lit 111, nat_lit 100])
noncomputable def s_20 : Str := Str.mk (Array.mk [nat_lit 101, nat_lit 118, nat_lit 97, nat_lit 108])
noncomputable def s_21 : Str := Str.mk (Array.mk [nat_lit 101, nat_lit 120, nat_lit 101, nat_lit 99])
noncomputable def s_22 : Str := Str.mk (Array.mk [nat_lit 102, nat_lit 111, nat_lit 114, nat_lit 109, nat_lit 97, nat_lit 116])
noncomputable def s_23 : Str := Str.mk (Array.mk [nat_lit 103, nat_lit 101, nat_lit 116, nat_lit 97, nat_lit 116, nat_lit 116, nat_lit 114])
noncomputable def s_24 : Str := Str.mk (Array.mk [nat_lit 103, nat_lit 108, nat_lit 111, nat_lit 98, nat_lit 97, nat_lit 108, nat_lit 115])
noncomputable def s_25 : Str := Str.mk (Array.mk [nat_lit 104, nat_lit 97, nat_lit 115, nat_lit 97, nat_lit 116, nat_lit 116, nat_lit 114])
noncomputable def s_26 : Str := Str.mk (Array.mk [nat_lit 104, nat_lit 97, nat_lit 115, nat_lit 104])
noncomputable def s_27 : Str := Str.mk (Array.mk [nat_lit 104, nat_lit 101, nat_lit 120])
noncomputable def s_28 : Str := Str.mk (Array.mk [nat_lit 105, nat_lit 100])
noncomputable def s_29 : Str := Str.mk (Array.mk [nat_lit 105, nat_lit 110, nat_lit 112, nat_lit 117, nat_lit 116])
noncomputable def s_30 : Str := Str.mk (Array.mk [nat_lit 105, nat_lit 115, nat_lit 105, nat_lit 110, nat_lit 115, nat_lit 116, nat_lit 97, nat_lit 110, nat_lit 99, nat_lit 101])
noncomputable def s_31 : Str := Str.mk (Array.mk [nat_lit 105, nat_lit 115, nat_lit 115, nat_lit 117, nat_lit 98, nat_lit 99, nat_lit 108, nat_lit 97, nat_lit 115, nat_lit 115])
noncomputable def s_32 : Str := Str.mk (Array.mk [nat_lit 105, nat_lit 116, nat_lit 101, nat_lit 114])
noncomputable def s_33 : Str := Str.mk (Array.mk [nat_lit 97, nat_lit 105, nat_lit 116, nat_lit 101, nat_lit 114])
noncomputable def s_34 : Str := Str.mk (Array.mk [nat_lit 108, nat_lit 101, nat_lit 110])
noncomputable def s_35 : Str := Str.mk (Array.mk [nat_lit 108, nat_lit 111, nat_lit 99, nat_lit 97, nat_lit 108, nat_lit 115])
noncomputable def s_36 : Str := Str.mk (Array.mk [nat_lit 109, nat_lit 97, nat_lit 120])
noncomputable def s_37 : Str := Str.mk (Array.mk [nat_lit 109, nat_lit 105, nat_lit 110])
noncomputable def s_38 : Str := Str.mk (Array.mk [nat_lit 110, nat_lit 101, nat_lit 120, nat_lit 116])
noncomputable def s_39 : Str := Str.mk (Array.mk [nat_lit 97, nat_lit 110, nat_lit 101, nat_lit 120, nat_lit 116])
noncomputable def s_40 : Str := Str.mk (Array.mk [nat_lit 111, nat_lit 99, nat_lit 116])
noncomputable def s_41 : Str := Str.mk (Array.mk [nat_lit 111, nat_lit 114, nat_lit 100])
noncomputable def s_42 : Str := Str.mk (Array.mk [nat_lit 112, nat_lit 111, nat_lit 119])
noncomputable def s_43 : Str := Str.mk (Array.mk [nat_lit 112, nat_lit 114, nat_lit 105, nat_lit 110, nat_lit 116])
noncomputable def s_44 : Str := Str.mk (Array.mk [nat_lit 114, nat_lit 101, nat_lit 112, nat_lit 114])
noncomputable def s_45 : Str := Str.mk (Array.mk [nat_lit 114, nat_lit 111, nat_lit 117, nat_lit 110, nat_lit 100])
noncomputable def s_46 : Str := Str.mk (Array.mk [nat_lit 115, nat_lit 101, nat_lit 116, nat_lit 97, nat_lit 116, nat_lit 116, nat_lit 114])
noncomputable def s_47 : Str := Str.mk (Array.mk [nat_lit 115, nat_lit 111, nat_lit 114, nat_lit 116, nat_lit 101, nat_lit 100])
noncomputable def s_48 : Str := Str.mk (Array.mk [nat_lit 115, nat_lit 117, nat_lit 109])
noncomputable def s_49 : Str := Str.mk (Array.mk [nat_lit 118, nat_lit 97, nat_lit 114, nat_lit 115])
noncomputable def s_50 : Str := Str.mk (Array.mk [nat_lit 78, nat_lit 111, nat_lit 110, nat_lit 101])
noncomputable def s_51 : Str := Str.mk (Array.mk [nat_lit 69, nat_lit 108, nat_lit 108, nat_lit 105, nat_lit 112, nat_lit 115, nat_lit 105, nat_lit 115])
noncomputable def s_52 : Str := Str.mk (Array.mk [nat_lit 78, nat_lit 111, nat_lit 116, nat_lit 73, nat_lit 109, nat_lit 112, nat_lit 108, nat_lit 101, nat_lit 109, nat_lit 101, nat_lit 110, nat_lit 116, nat_lit 101, nat_lit 100])
noncomputable def s_53 : Str := Str.mk (Array.mk [nat_lit 70, nat_lit 97, nat_lit 108, nat_lit 115, nat_lit 101])
noncomputable def s_54 : Str := Str.mk (Array.mk [nat_lit 84, nat_lit 114, nat_lit 117, nat_lit 101])
noncomputable def s_55 : Str := Str.mk (Array.mk [nat_lit 98, nat_lit 111, nat_lit 111, nat_lit 108])
noncomputable def s_56 : Str := Str.mk (Array.mk [nat_lit 109, nat_lit 101, nat_lit 109, nat_lit 111, nat_lit 114, nat_lit 121, nat_lit 118, nat_lit 105, nat_lit 101, nat_lit 119])
noncomputable def s_57 : Str := Str.mk (Array.mk [nat_lit 98, nat_lit 121, nat_lit 116, nat_lit 101, nat_lit 97, nat_lit 114, nat_lit 114, nat_lit 97, nat_lit 121])
noncomputable def s_58 : Str := Str.mk (Array.mk [nat_lit 98, nat_lit 121, nat_lit 116, nat_lit 101, nat_lit 115])
noncomputable def s_59 : Str := Str.mk (Array.mk [nat_lit 99, nat_lit 108, nat_lit 97, nat_lit 115, nat_lit 115, nat_lit 109, nat_lit 101, nat_lit 116, nat_lit 104, nat_lit 111, nat_lit 100])
noncomputable def s_60 : Str := Str.mk (Array.mk [nat_lit 99, nat_lit 111, nat_lit 109, nat_lit 112, nat_lit 108, nat_lit 101, nat_lit 120])
noncomputable def s_61 : Str := Str.mk (Array.mk [nat_lit 100, nat_lit 105, nat_lit 99, nat_lit 116])
noncomputable def s_62 : Str := Str.mk (Array.mk [nat_lit 101, nat_lit 110, nat_lit 117, nat_lit 109, nat_lit 101, nat_lit 114, nat_lit 97, nat_lit 116, nat_lit 101])
noncomputable def s_63 : Str := Str.mk (Array.mk [nat_lit 102, nat_lit 105, nat_lit 108, nat_lit 116, nat_lit 101, nat_lit 114])
noncomputable def s_64 : Str := Str.mk (Array.mk [nat_lit 102, nat_lit 108, nat_lit 111, nat_lit 97, nat_lit 116])
noncomputable def s_65 : Str := Str.mk (Array.mk [nat_lit 102, nat_lit 114, nat_lit 111, nat_lit 122, nat_lit 101, nat_lit 110, nat_lit 115, nat_lit 101, nat_lit 116])
noncomputable def s_66 : Str := Str.mk (Array.mk [nat_lit 112, nat_lit 114, nat_lit 111, nat_lit 112, nat_lit 101, nat_lit 114, nat_lit 116, nat_lit 121])
noncomputable def s_67 : Str := Str.mk (Array.mk [nat_lit 105, nat_lit 110, nat_lit 116])
noncomputable def s_68 : Str := Str.mk (Array.mk [nat_lit 108, nat_lit 105, nat_lit 115, nat_lit 116])
noncomputable def s_69 : Str := Str.mk (Array.mk [nat_lit 109, nat_lit 97, nat_lit 112])
noncomputable def s_70 : Str := Str.mk (Array.mk [nat_lit 111, nat_lit 98, nat_lit 106, nat_lit 101, nat_lit 99, nat_lit 116])
noncomputable def s_71 : Str := Str.mk (Array.mk [nat_lit 114, nat_lit 97, nat_lit 110, nat_lit 103, nat_lit 101])
noncomputable def s_72 : Str := Str.mk (Array.mk [nat_lit 114, nat_lit 101, nat_lit 118, nat_lit 101, nat_lit 114, nat_lit 115, nat_lit 101, nat_lit 100])
noncomputable def s_73 : Str := Str.mk (Array.mk [nat_lit 115, nat_lit 101, nat_lit 116])
noncomputable def s_74 : Str := Str.mk (Array.mk [nat_lit 115, nat_lit 108, nat_lit 105, nat_lit 99, nat_lit 101])
noncomputable def s_75 : Str := Str.mk (Array.mk [nat_lit 115, nat_lit 116, nat_lit 97, nat_lit 116, nat_lit 105, nat_lit 99, nat_lit 109, nat_lit 101, nat_lit 116, nat_lit 104, nat_lit 111, nat_lit 100])
noncomputable def s_76 : Str := Str.mk (Array.mk [nat_lit 115, nat_lit 116, nat_lit 114])
noncomputable def s_77 : Str := Str.mk (Array.mk [nat_lit 115, nat_lit 117, nat_lit 112, nat_lit 101, nat_lit 114])
noncomputable def s_78 : Str := Str.mk (Array.mk [nat_lit 116, nat_lit 117, nat_lit 112, nat_lit 108, nat_lit 101])
noncomputable def s_79 : Str := Str.mk (Array.mk [nat_lit 116, nat_lit 121, nat_lit 112, nat_lit 101])
noncomputable def s_80 : Str := Str.mk (Array.mk [nat_lit 122, nat_lit 105, nat_lit 112])
noncomputable def s_81 : Str := Str.mk (Array.mk [nat_lit 95, nat_lit 95, nat_lit 100, nat_lit 101, nat_lit 98, nat_lit 117, nat_lit 103, nat_lit 95, nat_lit 95])
noncomputable def s_82 : Str := Str.mk (Array.mk [nat_lit 66, nat_lit 97, nat_lit 115, nat_lit 101, nat_lit 69, nat_lit 120, nat_lit 99, nat_lit 101, nat_lit 112, nat_lit 116, nat_lit 105, nat_lit 111, nat_lit 110])
noncomputable def s_83 : Str := Str.mk (Array.mk [nat_lit 66, nat_lit 97, nat_lit 115, nat_lit 101, nat_lit 69, nat_lit 120, nat_lit 99, nat_lit 101, nat_lit 112, nat_lit 116, nat_lit 105, nat_lit 111, nat_lit 110, nat_lit 71, nat_lit 114, nat_lit 111, nat_lit 117, nat_lit 112])
noncomputable def s_84 : Str := Str.mk (Array.mk [nat_lit 69, nat_lit 120, nat_lit 99, nat_lit 101, nat_lit 112, nat_lit 116, nat_lit 105, nat_lit 111, nat_lit 110])
noncomputable def s_85 : Str := Str.mk (Array.mk [nat_lit 71, nat_lit 101, nat_lit 110, nat_lit 101, nat_lit 114, nat_lit 97, nat_lit 116, nat_lit 111, nat_lit 114, nat_lit 69, nat_lit 120, nat_lit 105, nat_lit 116])
noncomputable def s_86 : Str := Str.mk (Array.mk [nat_lit 75, nat_lit 101, nat_lit 121, nat_lit 98, nat_lit 111, nat_lit 97, nat_lit 114, nat_lit 100, nat_lit 73, nat_lit 110, nat_lit 116, nat_lit 101, nat_lit 114, nat_lit 114, nat_lit 117, nat_lit 112, nat_lit 116])
noncomputable def s_87 : Str := Str.mk (Array.mk [nat_lit 83, nat_lit 121, nat_lit 115, nat_lit 116, nat_lit 101, nat_lit 109, nat_lit 69, nat_lit 120, nat_lit 105, nat_lit 116])
noncomputable def s_88 : Str := Str.mk (Array.mk [nat_lit 65, nat_lit 114, nat_lit 105, nat_lit 116, nat_lit 104, nat_lit 109, nat_lit 101, nat_lit 116, nat_lit 105, nat_lit 99, nat_lit 69, nat_lit 114, nat_lit 114, nat_lit 111, nat_lit 114])
noncomputable def s_89 : Str := Str.mk (Array.mk [nat_lit 65, nat_lit 115, nat_lit 115, nat_lit 101, nat_lit 114, nat_lit 116, nat_lit 105, nat_lit 111, nat_lit 110, nat_lit 69, nat_lit 114, nat_lit 114, nat_lit 111, nat_lit 114])
noncomputable def s_90 : Str := Str.mk (Array.mk [nat_lit 65, nat_lit 116, nat_lit 116, nat_lit 114, nat_lit 105, nat_lit 98, nat_lit 117, nat_lit 116, nat_lit 101, nat_lit 69, nat_lit 114, nat_lit 114, nat_lit 111, nat_lit 114])
noncomputable def s_91 : Str := Str.mk (Array.mk [nat_lit 66, nat_lit 117, nat_lit 102, nat_lit 102, nat_lit 101, nat_lit 114, nat_lit 69, nat_lit 114, nat_lit 114, nat_lit 111, nat_lit 114])
noncomputable def s_92 : Str := Str.mk (Array.mk [nat_lit 69, nat_lit 79, nat_lit 70, nat_lit 69, nat_lit 114, nat_lit 114, nat_lit 111, nat_lit 114])
noncomputable def s_93 : Str := Str.mk (Array.mk [nat_lit 73, nat_lit 109, nat_lit 112, nat_lit 111, nat_lit 114, nat_lit 116, nat_lit 69, nat_lit 114, nat_lit 114, nat_lit 111, nat_lit 114])
noncomputable def s_94 : Str := Str.mk (Array.mk [nat_lit 76, nat_lit 111, nat_lit 111, nat_lit 107, nat_lit 117, nat_lit 112, nat_lit 69, nat_lit 114, nat_lit 114, nat_lit 111, nat_lit 114])
noncomputable def s_95 : Str := Str.mk (Array.mk [nat_lit 77, nat_lit 101, nat_lit 109, nat_lit 111, nat_lit 114, nat_lit 121, nat_lit 69, nat_lit 114, nat_lit 114, nat_lit 111, nat_lit 114])
noncomputable def s_96 : Str := Str.mk (Array.mk [nat_lit 78, nat_lit 97, nat_lit 109, nat_lit 101, nat_lit 69, nat_lit 114, nat_lit 114, nat_lit 111, nat_lit 114])
noncomputable def s_97 : Str := Str.mk (Array.mk [nat_lit 79, nat_lit 83, nat_lit 69, nat_lit 114, nat_lit 114, nat_lit 111, nat_lit 114])
noncomputable def s_98 : Str := Str.mk (Array.mk [nat_lit 82, nat_lit 101, nat_lit 102, nat_lit 101, nat_lit 114, nat_lit 101, nat_lit 110, nat_lit 99, nat_lit 101, nat_lit 69, nat_lit 114, nat_lit 114, nat_lit 111, nat_lit 114])
noncomputable def s_99 : Str := Str.mk (Array.mk [nat_lit 82, nat_lit 117, nat_lit 110, nat_lit 116, nat_lit 105, nat_lit 109, nat_lit 101, nat_lit 69, nat_lit 114, nat_lit 114, nat_lit 111, nat_lit 114])
noncomputable def s_100 : Str := Str.mk (Array.mk [nat_lit 83, nat_lit 116, nat_lit 111, nat_lit 112, nat_lit 65, nat_lit 115, nat_lit 121, nat_lit 110, nat_lit 99, nat_lit 73, nat_lit 116, nat_lit 101, nat_lit 114, nat_lit 97, nat_lit 116, nat_lit 105, nat_lit 111, nat_lit 110])
noncomputable def s_101 : Str := Str.mk (Array.mk [nat_lit 83, nat_lit 116, nat_lit 111, nat_lit 112, nat_lit 73, nat_lit 116, nat_lit 101, nat_lit 114, nat_lit 97, nat_lit 116, nat_lit 105, nat_lit 111, nat_lit 110])
noncomputable def s_102 : Str := Str.mk (Array.mk [nat_lit 83, nat_lit 121, nat_lit 110, nat_lit 116, nat_lit 97, nat_lit 120, nat_lit 69, nat_lit 114, nat_lit 114, nat_lit 111, nat_lit 114])
noncomputable def s_103 : Str := Str.mk (Array.mk [nat_lit 83, nat_lit 121, nat_lit 115, nat_lit 116, nat_lit 101, nat_lit 109, nat_lit 69, nat_lit 114, nat_lit 114, nat_lit 111, nat_lit 114])
noncomputable def s_104 : Str := Str.mk (Array.mk [nat_lit 84, nat_lit 121, nat_lit 112, nat_lit 101, nat_lit 69, nat_lit 114, nat_lit 114, nat_lit 111, nat_lit 114])
noncomputable def s_105 : Str := Str.mk (Array.mk [nat_lit 86, nat_lit 97, nat_lit 108, nat_lit 117, nat_lit 101, nat_lit 69, nat_lit 114, nat_lit 114, nat_lit 111, nat_lit 114])
noncomputable def s_106 : Str := Str.mk (Array.mk [nat_lit 87, nat_lit 97, nat_lit 114, nat_lit 110, nat_lit 105, nat_lit 110, nat_lit 103])
noncomputable def s_107 : Str := Str.mk (Array.mk [nat_lit 70, nat_lit 108, nat_lit 111, nat_lit 97, nat_lit 116, nat_lit 105, nat_lit 110, nat_lit 103, nat_lit 80, nat_lit 111, nat_lit 105, nat_lit 110, nat_lit 116, nat_lit 69, nat_lit 114, nat_lit 114, nat_lit 111, nat_lit 114])
noncomputable def s_108 : Str := Str.mk (Array.mk [nat_lit 79, nat_lit 118, nat_lit 101, nat_lit 114, nat_lit 102, nat_lit 108, nat_lit 111, nat_lit 119, nat_lit 69, nat_lit 114, nat_lit 114, nat_lit 111, nat_lit 114])
noncomputable def s_109 : Str := Str.mk (Array.mk [nat_lit 90, nat_lit 101, nat_lit 114, nat_lit 111, nat_lit 68, nat_lit 105, nat_lit 118, nat_lit 105, nat_lit 115, nat_lit 105, nat_lit 111, nat_lit 110, nat_lit 69, nat_lit 114, nat_lit 114, nat_lit 111, nat_lit 114])
noncomputable def s_110 : Str := Str.mk (Array.mk [nat_lit 66, nat_lit 121, nat_lit 116, nat_lit 101, nat_lit 115, nat_lit 87, nat_lit 97, nat_lit 114, nat_lit 110, nat_lit 105, nat_lit 110, nat_lit 103])
noncomputable def s_111 : Str := Str.mk (Array.mk [nat_lit 68, nat_lit 101, nat_lit 112, nat_lit 114, nat_lit 101, nat_lit 99, nat_lit 97, nat_lit 116, nat_lit 105, nat_lit 111, nat_lit 110, nat_lit 87, nat_lit 97, nat_lit 114, nat_lit 110, nat_lit 105, nat_lit 110, nat_lit 103])
noncomputable def s_112 : Str := Str.mk (Array.mk [nat_lit 69, nat_lit 110, nat_lit 99, nat_lit 111, nat_lit 100, nat_lit 105, nat_lit 110, nat_lit 103, nat_lit 87, nat_lit 97, nat_lit 114, nat_lit 110, nat_lit 105, nat_lit 110, nat_lit 103])
noncomputable def s_113 : Str := Str.mk (Array.mk [nat_lit 70, nat_lit 117, nat_lit 116, nat_lit 117, nat_lit 114, nat_lit 101, nat_lit 87, nat_lit 97, nat_lit 114, nat_lit 110, nat_lit 105, nat_lit 110, nat_lit 103])
noncomputable def s_114 : Str := Str.mk (Array.mk [nat_lit 73, nat_lit 109, nat_lit 112, nat_lit 111, nat_lit 114, nat_lit 116, nat_lit 87, nat_lit 97, nat_lit 114, nat_lit 110, nat_lit 105, nat_lit 110, nat_lit 103])
noncomputable def s_115 : Str := Str.mk (Array.mk [nat_lit 80, nat_lit 101, nat_lit 110, nat_lit 100, nat_lit 105, nat_lit 110, nat_lit 103, nat_lit 68, nat_lit 101, nat_lit 112, nat_lit 114, nat_lit 101, nat_lit 99, nat_lit 97, nat_lit 116, nat_lit 105, nat_lit 111, nat_lit 110, nat_lit 87, nat_lit 97, nat_lit 114, nat_lit 110, nat_lit 105, nat_lit 110, nat_lit 103])
noncomputable def s_116 : Str := Str.mk (Array.mk [nat_lit 82, nat_lit 101, nat_lit 115, nat_lit 111, nat_lit 117, nat_lit 114, nat_lit 99, nat_lit 101, nat_lit 87, nat_lit 97, nat_lit 114, nat_lit 110, nat_lit 105, nat_lit 110, nat_lit 103])
noncomputable def s_117 : Str := Str.mk (Array.mk [nat_lit 82, nat_lit 117, nat_lit 110, nat_lit 116, nat_lit 105, nat_lit 109, nat_lit 101, nat_lit 87, nat_lit 97, nat_lit 114, nat_lit 110, nat_lit 105, nat_lit 110, nat_lit 103])
noncomputable def s_118 : Str := Str.mk (Array.mk [nat_lit 83, nat_lit 121, nat_lit 110, nat_lit 116, nat_lit 97, nat_lit 120, nat_lit 87, nat_lit 97, nat_lit 114, nat_lit 110, nat_lit 105, nat_lit 110, nat_lit 103])
noncomputable def s_119 : Str := Str.mk (Array.mk [nat_lit 85, nat_lit 110, nat_lit 105, nat_lit 99, nat_lit 111, nat_lit 100, nat_lit 101, nat_lit 87, nat_lit 97, nat_lit 114, nat_lit 110, nat_lit 105, nat_lit 110, nat_lit 103])
noncomputable def s_120 : Str := Str.mk (Array.mk [nat_lit 85, nat_lit 115, nat_lit 101, nat_lit 114, nat_lit 87, nat_lit 97, nat_lit 114, nat_lit 110, nat_lit 105, nat_lit 110, nat_lit 103])
noncomputable def s_121 : Str := Str.mk (Array.mk [nat_lit 66, nat_lit 108, nat_lit 111, nat_lit 99, nat_lit 107, nat_lit 105, nat_lit 110, nat_lit 103, nat_lit 73, nat_lit 79, nat_lit 69, nat_lit 114, nat_lit 114, nat_lit 111, nat_lit 114])
noncomputable def s_122 : Str := Str.mk (Array.mk [nat_lit 67, nat_lit 104, nat_lit 105, nat_lit 108, nat_lit 100, nat_lit 80, nat_lit 114, nat_lit 111, nat_lit 99, nat_lit 101, nat_lit 115, nat_lit 115, nat_lit 69, nat_lit 114, nat_lit 114, nat_lit 111, nat_lit 114])
noncomputable def s_123 : Str := Str.mk (Array.mk [nat_lit 67, nat_lit 111, nat_lit 110, nat_lit 110, nat_lit 101, nat_lit 99, nat_lit 116, nat_lit 105, nat_lit 111, nat_lit 110, nat_lit 69, nat_lit 114, nat_lit 114, nat_lit 111, nat_lit 114])
noncomputable def s_124 : Str := Str.mk (Array.mk [nat_lit 70, nat_lit 105, nat_lit 108, nat_lit 101, nat_lit 69, nat_lit 120, nat_lit 105, nat_lit 115, nat_lit 116, nat_lit 115, nat_lit 69, nat_lit 114, nat_lit 114, nat_lit 111, nat_lit 114])
noncomputable def s_125 : Str := Str.mk (Array.mk [nat_lit 70, nat_lit 105, nat_lit 108, nat_lit 101, nat_lit 78, nat_lit 111, nat_lit 116, nat_lit 70, nat_lit 111, nat_lit 117, nat_lit 110, nat_lit 100, nat_lit 69, nat_lit 114, nat_lit 114, nat_lit 111, nat_lit 114])
noncomputable def s_126 : Str := Str.mk (Array.mk [nat_lit 73, nat_lit 110, nat_lit 116, nat_lit 101, nat_lit 114, nat_lit 114, nat_lit 117, nat_lit 112, nat_lit 116, nat_lit 101, nat_lit 100, nat_lit 69, nat_lit 114, nat_lit 114, nat_lit 111, nat_lit 114])
noncomputable def s_127 : Str := Str.mk (Array.mk [nat_lit 73, nat_lit 115, nat_lit 65, nat_lit 68, nat_lit 105, nat_lit 114, nat_lit 101, nat_lit 99, nat_lit 116, nat_lit 111, nat_lit 114, nat_lit 121, nat_lit 69, nat_lit 114, nat_lit 114, nat_lit 111, nat_lit 114])
noncomputable def s_128 : Str := Str.mk (Array.mk [nat_lit 78, nat_lit 111, nat_lit 116, nat_lit 65, nat_lit 68, nat_lit 105, nat_lit 114, nat_lit 101, nat_lit 99, nat_lit 116, nat_lit 111, nat_lit 114, nat_lit 121, nat_lit 69, nat_lit 114, nat_lit 114, nat_lit 111, nat_lit 114])
noncomputable def s_129 : Str := Str.mk (Array.mk [nat_lit 80, nat_lit 101, nat_lit 114, nat_lit 109, nat_lit 105, nat_lit 115, nat_lit 115, nat_lit 105, nat_lit 111, nat_lit 110, nat_lit 69, nat_lit 114, nat_lit 114, nat_lit 111, nat_lit 114])
noncomputable def s_130 : Str := Str.mk (Array.mk [nat_lit 80, nat_lit 114, nat_lit 111, nat_lit 99, nat_lit 101, nat_lit 115, nat_lit 115, nat_lit 76, nat_lit 111, nat_lit 111, nat_lit 107, nat_lit 117, nat_lit 112, nat_lit 69, nat_lit 114, nat_lit 114, nat_lit 111, nat_lit 114])
noncomputable def s_131 : Str := Str.mk (Array.mk [nat_lit 84, nat_lit 105, nat_lit 109, nat_lit 101, nat_lit 111, nat_lit 117, nat_lit 116, nat_lit 69, nat_lit 114, nat_lit 114, nat_lit 111, nat_lit 114])
noncomputable def s_132 : Str := Str.mk (Array.mk [nat_lit 73, nat_lit 110, nat_lit 100, nat_lit 101, nat_lit 110, nat_lit 116, nat_lit 97, nat_lit 116, nat_lit 105, nat_lit 111, nat_lit 110, nat_lit 69, nat_lit 114, nat_lit 114, nat_lit 111, nat_lit 114])
noncomputable def s_133 : Str := Str.mk (Array.mk [nat_lit 95, nat_lit 73, nat_lit 110, nat_lit 99, nat_lit 111, nat_lit 109, nat_lit 112, nat_lit 108, nat_lit 101, nat_lit 116, nat_lit 101, nat_lit 73, nat_lit 110, nat_lit 112, nat_lit 117, nat_lit 116, nat_lit 69, nat_lit 114, nat_lit 114, nat_lit 111, nat_lit 114])
noncomputable def s_134 : Str := Str.mk (Array.mk [nat_lit 73, nat_lit 110, nat_lit 100, nat_lit 101, nat_lit 120, nat_lit 69, nat_lit 114, nat_lit 114, nat_lit 111, nat_lit 114])
noncomputable def s_135 : Str := Str.mk (Array.mk [nat_lit 75, nat_lit 101, nat_lit 121, nat_lit 69, nat_lit 114, nat_lit 114, nat_lit 111, nat_lit 114])
noncomputable def s_136 : Str := Str.mk (Array.mk [nat_lit 77, nat_lit 111, nat_lit 100, nat_lit 117, nat_lit 108, nat_lit 101, nat_lit 78, nat_lit 111, nat_lit 116, nat_lit 70, nat_lit 111, nat_lit 117, nat_lit 110, nat_lit 100, nat_lit 69, nat_lit 114, nat_lit 114, nat_lit 111, nat_lit 114])
noncomputable def s_137 : Str := Str.mk (Array.mk [nat_lit 78, nat_lit 111, nat_lit 116, nat_lit 73, nat_lit 109, nat_lit 112, nat_lit 108, nat_lit 101, nat_lit 109, nat_lit 101, nat_lit 110, nat_lit 116, nat_lit 101, nat_lit 100, nat_lit 69, nat_lit 114, nat_lit 114, nat_lit 111, nat_lit 114])
noncomputable def s_138 : Str := Str.mk (Array.mk [nat_lit 80, nat_lit 121, nat_lit 116, nat_lit 104, nat_lit 111, nat_lit 110, nat_lit 70, nat_lit 105, nat_lit 110, nat_lit 97, nat_lit 108, nat_lit 105, nat_lit 122, nat_lit 97, nat_lit 116, nat_lit 105, nat_lit 111, nat_lit 110, nat_lit 69, nat_lit 114, nat_lit 114, nat_lit 111, nat_lit 114])
noncomputable def s_139 : Str := Str.mk (Array.mk [nat_lit 82, nat_lit 101, nat_lit 99, nat_lit 117, nat_lit 114, nat_lit 115, nat_lit 105, nat_lit 111, nat_lit 110, nat_lit 69, nat_lit 114, nat_lit 114, nat_lit 111, nat_lit 114])
noncomputable def s_140 : Str := Str.mk (Array.mk [nat_lit 85, nat_lit 110, nat_lit 98, nat_lit 111, nat_lit 117, nat_lit 110, nat_lit 100, nat_lit 76, nat_lit 111, nat_lit 99, nat_lit 97, nat_lit 108, nat_lit 69, nat_lit 114, nat_lit 114, nat_lit 111, nat_lit 114])
noncomputable def s_141 : Str := Str.mk (Array.mk [nat_lit 85, nat_lit 110, nat_lit 105, nat_lit 99, nat_lit 111, nat_lit 100, nat_lit 101, nat_lit 69, nat_lit 114, nat_lit 114, nat_lit 111, nat_lit 114])
noncomputable def s_142 : Str := Str.mk (Array.mk [nat_lit 66, nat_lit 114, nat_lit 111, nat_lit 107, nat_lit 101, nat_lit 110, nat_lit 80, nat_lit 105, nat_lit 112, nat_lit 101, nat_lit 69, nat_lit 114, nat_lit 114, nat_lit 111, nat_lit 114])
noncomputable def s_143 : Str := Str.mk (Array.mk [nat_lit 67, nat_lit 111, nat_lit 110, nat_lit 110, nat_lit 101, nat_lit 99, nat_lit 116, nat_lit 105, nat_lit 111, nat_lit 110, nat_lit 65, nat_lit 98, nat_lit 111, nat_lit 114, nat_lit 116, nat_lit 101, nat_lit 100, nat_lit 69, nat_lit 114, nat_lit 114, nat_lit 111, nat_lit 114])
noncomputable def s_144 : Str := Str.mk (Array.mk [nat_lit 67, nat_lit 111, nat_lit 110, nat_lit 110, nat_lit 101, nat_lit 99, nat_lit 116, nat_lit 105, nat_lit 111, nat_lit 110, nat_lit 82, nat_lit 101, nat_lit 102, nat_lit 117, nat_lit 115, nat_lit 101, nat_lit 100, nat_lit 69, nat_lit 114, nat_lit 114, nat_lit 111, nat_lit 114])
noncomputable def s_145 : Str := Str.mk (Array.mk [nat_lit 67, nat_lit 111, nat_lit 110, nat_lit 110, nat_lit 101, nat_lit 99, nat_lit 116, nat_lit 105, nat_lit 111, nat_lit 110, nat_lit 82, nat_lit 101, nat_lit 115, nat_lit 101, nat_lit 116, nat_lit 69, nat_lit 114, nat_lit 114, nat_lit 111, nat_lit 114])
noncomputable def s_146 : Str := Str.mk (Array.mk [nat_lit 84, nat_lit 97, nat_lit 98, nat_lit 69, nat_lit 114, nat_lit 114, nat_lit 111, nat_lit 114])
noncomputable def s_147 : Str := Str.mk (Array.mk [nat_lit 85, nat_lit 110, nat_lit 105, nat_lit 99, nat_lit 111, nat_lit 100, nat_lit 101, nat_lit 68, nat_lit 101, nat_lit 99, nat_lit 111, nat_lit 100, nat_lit 101, nat_lit 69, nat_lit 114, nat_lit 114, nat_lit 111, nat_lit 114])
noncomputable def s_148 : Str := Str.mk (Array.mk [nat_lit 85, nat_lit 110, nat_lit 105, nat_lit 99, nat_lit 111, nat_lit 100, nat_lit 101, nat_lit 69, nat_lit 110, nat_lit 99, nat_lit 111, nat_lit 100, nat_lit 101, nat_lit 69, nat_lit 114, nat_lit 114, nat_lit 111, nat_lit 114])
noncomputable def s_149 : Str := Str.mk (Array.mk [nat_lit 85, nat_lit 110, nat_lit 105, nat_lit 99, nat_lit 111, nat_lit 100, nat_lit 101, nat_lit 84, nat_lit 114, nat_lit 97, nat_lit 110, nat_lit 115, nat_lit 108, nat_lit 97, nat_lit 116, nat_lit 101, nat_lit 69, nat_lit 114, nat_lit 114, nat_lit 111, nat_lit 114])
noncomputable def s_150 : Str := Str.mk (Array.mk [nat_lit 69, nat_lit 120, nat_lit 99, nat_lit 101, nat_lit 112, nat_lit 116, nat_lit 105, nat_lit 111, nat_lit 110, nat_lit 71, nat_lit 114, nat_lit 111, nat_lit 117, nat_lit 112])
noncomputable def s_151 : Str := Str.mk (Array.mk [nat_lit 69, nat_lit 110, nat_lit 118, nat_lit 105, nat_lit 114, nat_lit 111, nat_lit 110, nat_lit 109, nat_lit 101, nat_lit 110, nat_lit 116, nat_lit 69, nat_lit 114, nat_lit 114, nat_lit 111, nat_lit 114])
noncomputable def s_152 : Str := Str.mk (Array.mk [nat_lit 73, nat_lit 79, nat_lit 69, nat_lit 114, nat_lit 114, nat_lit 111, nat_lit 114])
noncomputable def s_153 : Str := Str.mk (Array.mk [nat_lit 111, nat_lit 112, nat_lit 101, nat_lit 110])
noncomputable def s_154 : Str := Str.mk (Array.mk [nat_lit 113, nat_lit 117, nat_lit 105, nat_lit 116])
noncomputable def s_155 : Str := Str.mk (Array.mk [nat_lit 101, nat_lit 120, nat_lit 105, nat_lit 116])
noncomputable def s_156 : Str := Str.mk (Array.mk [nat_lit 99, nat_lit 111, nat_lit 112, nat_lit 121, nat_lit 114, nat_lit 105, nat_lit 103, nat_lit 104, nat_lit 116])
noncomputable def s_157 : Str := Str.mk (Array.mk [nat_lit 99, nat_lit 114, nat_lit 101, nat_lit 100, nat_lit 105, nat_lit 116, nat_lit 115])
noncomputable def s_158 : Str := Str.mk (Array.mk [nat_lit 108, nat_lit 105, nat_lit 99, nat_lit 101, nat_lit 110, nat_lit 115, nat_lit 101])
noncomputable def s_159 : Str := Str.mk (Array.mk [nat_lit 104, nat_lit 101, nat_lit 108, nat_lit 112])
noncomputable def s_160 : Str := Str.mk (Array.mk [nat_lit 95, nat_lit 95, nat_lit 109, nat_lit 97, nat_lit 105, nat_lit 110, nat_lit 95, nat_lit 95])
noncomputable def s_161 : Str := Str.mk (Array.mk [nat_lit 95, nat_lit 115, nat_lit 114, nat_lit 101])
noncomputable def s_162 : Str := Str.mk (Array.mk [nat_lit 105, nat_lit 109, nat_lit 112, nat_lit 111, nat_lit 114, nat_lit 116, nat_lit 46, nat_lit 108, nat_lit 111, nat_lit 97, nat_lit 100, nat_lit 101, nat_lit 100, nat_lit 46, nat_lit 95, nat_lit 115, nat_lit 114, nat_lit 101])
noncomputable def s_163 : Str := Str.mk (Array.mk [nat_lit 99, nat_lit 108, nat_lit 97, nat_lit 115, nat_lit 115, nat_lit 46, nat_lit 95, nat_lit 102, nat_lit 114, nat_lit 111, nat_lit 122, nat_lit 101, nat_lit 110, nat_lit 95, nat_lit 105, nat_lit 109, nat_lit 112, nat_lit 111, nat_lit 114, nat_lit 116, nat_lit 108, nat_lit 105, nat_lit 98, nat_lit 46, nat_lit 66, nat_lit 117, nat_lit 105, nat_lit 108, nat_lit 116, nat_lit 105, nat_lit 110, nat_lit 73, nat_lit 109, nat_lit 112, nat_lit 111, nat_lit 114, nat_lit 116, nat_lit 101, nat_lit 114])
noncomputable def s_164 : Str := Str.mk (Array.mk [nat_lit 119, nat_lit 97, nat_lit 116, nat_lit 99, nat_lit 104, nat_lit 101, nat_lit 100, nat_lit 46, nat_lit 105, nat_lit 109, nat_lit 112, nat_lit 111, nat_lit 114, nat_lit 116])
noncomputable def s_165 : Str := Str.mk (Array.mk [nat_lit 99, nat_lit 108, nat_lit 97, nat_lit 115, nat_lit 115, nat_lit 46, nat_lit 95, nat_lit 102, nat_lit 114, nat_lit 111, nat_lit 122, nat_lit 101, nat_lit 110, nat_lit 95, nat_lit 105, nat_lit 109, nat_lit 112, nat_lit 111, nat_lit 114, nat_lit 116, nat_lit 108, nat_lit 105, nat_lit 98, nat_lit 46, nat_lit 77, nat_lit 111, nat_lit 100, nat_lit 117, nat_lit 108, nat_lit 101, nat_lit 83, nat_lit 112, nat_lit 101, nat_lit 99])
noncomputable def s_166 : Str := Str.mk (Array.mk [nat_lit 115, nat_lit 121, nat_lit 115, nat_lit 46, nat_lit 109, nat_lit 111, nat_lit 100, nat_lit 117, nat_lit 108, nat_lit 101, nat_lit 115, nat_lit 46, nat_lit 98, nat_lit 111, nat_lit 111, nat_lit 107, nat_lit 101, nat_lit 100, nat_lit 45, nat_lit 101, nat_lit 112, nat_lit 111, nat_lit 99, nat_lit 104])
noncomputable def s_167 : Str := Str.mk (Array.mk [nat_lit 105, nat_lit 109, nat_lit 112, nat_lit 111, nat_lit 114, nat_lit 116, nat_lit 46, nat_lit 108, nat_lit 97, nat_lit 116, nat_lit 101, nat_lit 114, nat_lit 45, nat_lit 108, nat_lit 97, nat_lit 105, nat_lit 100, nat_lit 46, nat_lit 95, nat_lit 115, nat_lit 114, nat_lit 101])
noncomputable def s_168 : Str := Str.mk (Array.mk [nat_lit 119, nat_lit 97, nat_lit 116, nat_lit 99, nat_lit 104, nat_lit 101, nat_lit 100, nat_lit 46, nat_lit 108, nat_lit 105, nat_lit 98, nat_lit 114, nat_lit 97, nat_lit 114, nat_lit 121])
noncomputable def s_169 : Str := Str.mk (Array.mk [nat_lit 119, nat_lit 97, nat_lit 116, nat_lit 99, nat_lit 104, nat_lit 101, nat_lit 100, nat_lit 46, nat_lit 108, nat_lit 105, nat_lit 98, nat_lit 114, nat_lit 97, nat_lit 114, nat_lit 121, nat_lit 45, nat_lit 111, nat_lit 98, nat_lit 106, nat_lit 101, nat_lit 99, nat_lit 116, nat_lit 115])
noncomputable def s_170 : Str := Str.mk (Array.mk [nat_lit 12])
noncomputable def s_171 : Str := Str.mk (Array.mk [nat_lit 119, nat_lit 97, nat_lit 116, nat_lit 99, nat_lit 104, nat_lit 101, nat_lit 100, nat_lit 46, nat_lit 108, nat_lit 105, nat_lit 98, nat_lit 114, nat_lit 97, nat_lit 114, nat_lit 121, nat_lit 45, nat_lit 100, nat_lit 101, nat_lit 101, nat_lit 112, nat_lit 46, nat_lit 95, nat_lit 115, nat_lit 114, nat_lit 101])
noncomputable def s_172 : Str := Str.mk (Array.mk [nat_lit 4, nat_lit 0, nat_lit 0, nat_lit 11, nat_lit 4, nat_lit 0, nat_lit 0, nat_lit 11, nat_lit 4, nat_lit 0, nat_lit 0, nat_lit 3, nat_lit 4, nat_lit 0, nat_lit 0, nat_lit 11, nat_lit 8, nat_lit 4, nat_lit 100, nat_lit 105, nat_lit 99, nat_lit 116, nat_lit 2])
noncomputable def s_173 : Str := Str.mk (Array.mk [nat_lit 95, nat_lit 95, nat_lit 97, nat_lit 110, nat_lit 110, nat_lit 111, nat_lit 116, nat_lit 97, nat_lit 116, nat_lit 105, nat_lit 111, nat_lit 110, nat_lit 115, nat_lit 95, nat_lit 95])
noncomputable def s_174 : Str := Str.mk (Array.mk [nat_lit 95, nat_lit 95, nat_lit 98, nat_lit 117, nat_lit 105, nat_lit 108, nat_lit 116, nat_lit 105, nat_lit 110, nat_lit 115, nat_lit 95, nat_lit 95])
noncomputable def s_175 : Str := Str.mk (Array.mk [nat_lit 95, nat_lit 95, nat_lit 102, nat_lit 105, nat_lit 108, nat_lit 101, nat_lit 95, nat_lit 95])
noncomputable def s_176 : Str := Str.mk (Array.mk [nat_lit 47, nat_lit 99, nat_lit 108, nat_lit 97, nat_lit 105, nat_lit 109, nat_lit 47, nat_lit 99, nat_lit 117, nat_lit 116, nat_lit 46, nat_lit 112, nat_lit 121])
noncomputable def s_177 : Str := Str.mk (Array.mk [nat_lit 95, nat_lit 95, nat_lit 99, nat_lit 97, nat_lit 99, nat_lit 104, nat_lit 101, nat_lit 100, nat_lit 95, nat_lit 95])
noncomputable def s_178 : Str := Str.mk (Array.mk [nat_lit 60, nat_lit 109, nat_lit 111, nat_lit 100, nat_lit 117, nat_lit 108, nat_lit 101, nat_lit 62])
noncomputable def s_179 : Str := Str.mk (Array.mk [])
noncomputable def s_180 : Str := Str.mk (Array.mk [nat_lit 116, nat_lit 101, nat_lit 109, nat_lit 112, nat_lit 108, nat_lit 97, nat_lit 116, nat_lit 101])
noncomputable def s_181 : Str := Str.mk (Array.mk [nat_lit 103, nat_lit 101, nat_lit 116, nat_lit 99, nat_lit 111, nat_lit 100, nat_lit 101, nat_lit 115, nat_lit 105, nat_lit 122, nat_lit 101])
noncomputable def s_182 : Str := Str.mk (Array.mk [nat_lit 97, nat_lit 115, nat_lit 99, nat_lit 105, nat_lit 105, nat_lit 95, nat_lit 105, nat_lit 115, nat_lit 99, nat_lit 97, nat_lit 115, nat_lit 101, nat_lit 100])
noncomputable def s_183 : Str := Str.mk (Array.mk [nat_lit 117, nat_lit 110, nat_lit 105, nat_lit 99, nat_lit 111, nat_lit 100, nat_lit 101, nat_lit 95, nat_lit 105, nat_lit 115, nat_lit 99, nat_lit 97, nat_lit 115, nat_lit 101, nat_lit 100])
noncomputable def s_184 : Str := Str.mk (Array.mk [nat_lit 97, nat_lit 115, nat_lit 99, nat_lit 105, nat_lit 105, nat_lit 95, nat_lit 116, nat_lit 111, nat_lit 108, nat_lit 111, nat_lit 119, nat_lit 101, nat_lit 114])
noncomputable def s_185 : Str := Str.mk (Array.mk [nat_lit 117, nat_lit 110, nat_lit 105, nat_lit 99, nat_lit 111, nat_lit 100, nat_lit 101, nat_lit 95, nat_lit 116, nat_lit 111, nat_lit 108, nat_lit 111, nat_lit 119, nat_lit 101, nat_lit 114])
noncomputable def s_186 : Str := Str.mk (Array.mk [nat_lit 77, nat_lit 65, nat_lit 71, nat_lit 73, nat_lit 67])
noncomputable def s_187 : Str := Str.mk (Array.mk [nat_lit 67, nat_lit 79, nat_lit 68, nat_lit 69, nat_lit 83, nat_lit 73, nat_lit 90, nat_lit 69])
noncomputable def s_188 : Str := Str.mk (Array.mk [nat_lit 77, nat_lit 65, nat_lit 88, nat_lit 82, nat_lit 69, nat_lit 80, nat_lit 69, nat_lit 65, nat_lit 84])
noncomputable def s_189 : Str := Str.mk (Array.mk [nat_lit 77, nat_lit 65, nat_lit 88, nat_lit 71, nat_lit 82, nat_lit 79, nat_lit 85, nat_lit 80, nat_lit 83])
noncomputable def s_190 : Str := Str.mk (Array.mk [nat_lit 32, nat_lit 83, nat_lit 82, nat_lit 69, nat_lit 32, nat_lit 50, nat_lit 46, nat_lit 50, nat_lit 46, nat_lit 50, nat_lit 32, nat_lit 67, nat_lit 111, nat_lit 112, nat_lit 121, nat_lit 114, nat_lit 105, nat_lit 103, nat_lit 104, nat_lit 116, nat_lit 32, nat_lit 40, nat_lit 99, nat_lit 41, nat_lit 32, nat_lit 49, nat_lit 57, nat_lit 57, nat_lit 55, nat_lit 45, nat_lit 50, nat_lit 48, nat_lit 48, nat_lit 50, nat_lit 32, nat_lit 98, nat_lit 121, nat_lit 32, nat_lit 83, nat_lit 101, nat_lit 99, nat_lit 114, nat_lit 101, nat_lit 116, nat_lit 32, nat_lit 76, nat_lit 97, nat_lit 98, nat_lit 115, nat_lit 32, nat_lit 65, nat_lit 66, nat_lit 32])
noncomputable def s_191 : Str := Str.mk (Array.mk [nat_lit 95, nat_lit 95, nat_lit 109, nat_lit 111, nat_lit 100, nat_lit 117, nat_lit 108, nat_lit 101, nat_lit 95, nat_lit 95])
noncomputable def s_192 : Str := Str.mk (Array.mk [nat_lit 95, nat_lit 102, nat_lit 114, nat_lit 111, nat_lit 122, nat_lit 101, nat_lit 110, nat_lit 95, nat_lit 105, nat_lit 109, nat_lit 112, nat_lit 111, nat_lit 114, nat_lit 116, nat_lit 108, nat_lit 105, nat_lit 98])
noncomputable def s_193 : Str := Str.mk (Array.mk [nat_lit 95, nat_lit 95, nat_lit 102, nat_lit 105, nat_lit 114, nat_lit 115, nat_lit 116, nat_lit 108, nat_lit 105, nat_lit 110, nat_lit 101, nat_lit 110, nat_lit 111, nat_lit 95, nat_lit 95])
noncomputable def s_194 : Str := Str.mk (Array.mk [nat_lit 95, nat_lit 79, nat_lit 82, nat_lit 73, nat_lit 71, nat_lit 73, nat_lit 78])
noncomputable def s_195 : Str := Str.mk (Array.mk [nat_lit 98, nat_lit 117, nat_lit 105, nat_lit 108, nat_lit 116, nat_lit 45, nat_lit 105, nat_lit 110])
noncomputable def s_196 : Str := Str.mk (Array.mk [nat_lit 102, nat_lit 105, nat_lit 110, nat_lit 100, nat_lit 95, nat_lit 115, nat_lit 112, nat_lit 101, nat_lit 99])
noncomputable def s_197 : Str := Str.mk (Array.mk [nat_lit 99, nat_lit 114, nat_lit 101, nat_lit 97, nat_lit 116, nat_lit 101, nat_lit 95, nat_lit 109, nat_lit 111, nat_lit 100, nat_lit 117, nat_lit 108, nat_lit 101])
noncomputable def s_198 : Str := Str.mk (Array.mk [nat_lit 101, nat_lit 120, nat_lit 101, nat_lit 99, nat_lit 95, nat_lit 109, nat_lit 111, nat_lit 100, nat_lit 117, nat_lit 108, nat_lit 101])
noncomputable def s_199 : Str := Str.mk (Array.mk [nat_lit 103, nat_lit 101, nat_lit 116, nat_lit 95, nat_lit 99, nat_lit 111, nat_lit 100, nat_lit 101])
noncomputable def s_200 : Str := Str.mk (Array.mk [nat_lit 103, nat_lit 101, nat_lit 116, nat_lit 95, nat_lit 115, nat_lit 111, nat_lit 117, nat_lit 114, nat_lit 99, nat_lit 101])
noncomputable def s_201 : Str := Str.mk (Array.mk [nat_lit 105, nat_lit 115, nat_lit 95, nat_lit 112, nat_lit 97, nat_lit 99, nat_lit 107, nat_lit 97, nat_lit 103, nat_lit 101])
noncomputable def s_202 : Str := Str.mk (Array.mk [nat_lit 108, nat_lit 111, nat_lit 97, nat_lit 100, nat_lit 95, nat_lit 109, nat_lit 111, nat_lit 100, nat_lit 117, nat_lit 108, nat_lit 101])
noncomputable def s_203 : Str := Str.mk (Array.mk [nat_lit 95, nat_lit 95, nat_lit 115, nat_lit 116, nat_lit 97, nat_lit 116, nat_lit 105, nat_lit 99, nat_lit 95, nat_lit 97, nat_lit 116, nat_lit 116, nat_lit 114, nat_lit 105, nat_lit 98, nat_lit 117, nat_lit 116, nat_lit 101, nat_lit 115, nat_lit 95, nat_lit 95])
noncomputable def s_204 : Str := Str.mk (Array.mk [nat_lit 95, nat_lit 95, nat_lit 100, nat_lit 105, nat_lit 99, nat_lit 116, nat_lit 95, nat_lit 95])
noncomputable def s_205 : Str := Str.mk (Array.mk [nat_lit 95, nat_lit 95, nat_lit 119, nat_lit 101, nat_lit 97, nat_lit 107, nat_lit 114, nat_lit 101, nat_lit 102, nat_lit 95, nat_lit 95])
noncomputable def s_206 : Str := Str.mk (Array.mk [nat_lit 66, nat_lit 117, nat_lit 105, nat_lit 108, nat_lit 116, nat_lit 105, nat_lit 110, nat_lit 73, nat_lit 109, nat_lit 112, nat_lit 111, nat_lit 114, nat_lit 116, nat_lit 101, nat_lit 114])
noncomputable def s_207 : Str := Str.mk (Array.mk [nat_lit 6, nat_lit 189, nat_lit 10, nat_lit 95, nat_lit 95, nat_lit 109, nat_lit 111, nat_lit 100, nat_lit 117, nat_lit 108, nat_lit 101, nat_lit 95, nat_lit 95, nat_lit 6, nat_lit 186, nat_lit 17, nat_lit 95, nat_lit 102, nat_lit 114, nat_lit 111, nat_lit 122, nat_lit 101, nat_lit 110, nat_lit 95, nat_lit 105, nat_lit 109, nat_lit 112, nat_lit 111, nat_lit 114, nat_lit 116, nat_lit 108, nat_lit 105, nat_lit 98, nat_lit 6, nat_lit 190, nat_lit 15, nat_lit 95, nat_lit 95, nat_lit 102, nat_lit 105, nat_lit 114, nat_lit 115, nat_lit 116, nat_lit 108, nat_lit 105, nat_lit 110, nat_lit 101, nat_lit 110, nat_lit 111, nat_lit 95, nat_lit 95, nat_lit 4, nat_lit 187, nat_lit 0, nat_lit 971, nat_lit 6, nat_lit 191, nat_lit 7, nat_lit 95, nat_lit 95, nat_lit 100, nat_lit 111, nat_lit 99, nat_lit 95, nat_lit 95, nat_lit 9, nat_lit 52, nat_lit 95, nat_lit 102, nat_lit 114, nat_lit 111, nat_lit 122, nat_lit 101, nat_lit 110, nat_lit 95, nat_lit 105, nat_lit 109, nat_lit 112, nat_lit 111, nat_lit 114, nat_lit 116, nat_lit 108, nat_lit 105, nat_lit 98, nat_lit 46, nat_lit 66, nat_lit 117, nat_lit 105, nat_lit 108, nat_lit 116, nat_lit 105, nat_lit 110, nat_lit 73, nat_lit 109, nat_lit 112, nat_lit 111, nat_lit 114, nat_lit 116, nat_lit 101, nat_lit 114, nat_lit 46, nat_lit 95, nat_lit 95, nat_lit 100, nat_lit 111, nat_lit 99, nat_lit 95, nat_lit 95, nat_lit 58, nat_lit 115, nat_lit 116, nat_lit 114, nat_lit 35, nat_lit 111, nat_lit 112, nat_lit 97, nat_lit 113, nat_lit 117, nat_lit 101, nat_lit 6, nat_lit 192, nat_lit 7, nat_lit 95, nat_lit 79, nat_lit 82, nat_lit 73, nat_lit 71, nat_lit 73, nat_lit 78, nat_lit 6, nat_lit 188, nat_lit 8, nat_lit 98, nat_lit 117, nat_lit 105, nat_lit 108, nat_lit 116, nat_lit 45, nat_lit 105, nat_lit 110, nat_lit 6, nat_lit 193, nat_lit 9, nat_lit 102, nat_lit 105, nat_lit 110, nat_lit 100, nat_lit 95, nat_lit 115, nat_lit 112, nat_lit 101, nat_lit 99, nat_lit 9, nat_lit 50, nat_lit 95, nat_lit 102, nat_lit 114, nat_lit 111, nat_lit 122, nat_lit 101, nat_lit 110, nat_lit 95, nat_lit 105, nat_lit 109, nat_lit 112, nat_lit 111, nat_lit 114, nat_lit 116, nat_lit 108, nat_lit 105, nat_lit 98, nat_lit 46, nat_lit 66, nat_lit 117, nat_lit 105, nat_lit 108, nat_lit 116, nat_lit 105, nat_lit 110, nat_lit 73, nat_lit 109, nat_lit 112, nat_lit 111, nat_lit 114, nat_lit 116, nat_lit 101, nat_lit 114, nat_lit 46, nat_lit 102, nat_lit 105, nat_lit 110, nat_lit 100, nat_lit 95, nat_lit 115, nat_lit 112, nat_lit 101, nat_lit 99, nat_lit 35, nat_lit 111, nat_lit 112, nat_lit 97, nat_lit 113, nat_lit 117, nat_lit 101, nat_lit 6, nat_lit 194, nat_lit 13, nat_lit 99, nat_lit 114, nat_lit 101, nat_lit 97, nat_lit 116, nat_lit 101, nat_lit 95, nat_lit 109, nat_lit 111, nat_lit 100, nat_lit 117, nat_lit 108, nat_lit 101, nat_lit 9, nat_lit 54, nat_lit 95, nat_lit 102, nat_lit 114, nat_lit 111, nat_lit 122, nat_lit 101, nat_lit 110, nat_lit 95, nat_lit 105, nat_lit 109, nat_lit 112, nat_lit 111, nat_lit 114, nat_lit 116, nat_lit 108, nat_lit 105, nat_lit 98, nat_lit 46, nat_lit 66, nat_lit 117, nat_lit 105, nat_lit 108, nat_lit 116, nat_lit 105, nat_lit 110, nat_lit 73, nat_lit 109, nat_lit 112, nat_lit 111, nat_lit 114, nat_lit 116, nat_lit 101, nat_lit 114, nat_lit 46, nat_lit 99, nat_lit 114, nat_lit 101, nat_lit 97, nat_lit 116, nat_lit 101, nat_lit 95, nat_lit 109, nat_lit 111, nat_lit 100, nat_lit 117, nat_lit 108, nat_lit 101, nat_lit 35, nat_lit 111, nat_lit 112, nat_lit 97, nat_lit 113, nat_lit 117, nat_lit 101, nat_lit 6, nat_lit 195, nat_lit 11, nat_lit 101, nat_lit 120, nat_lit 101, nat_lit 99, nat_lit 95, nat_lit 109, nat_lit 111, nat_lit 100, nat_lit 117, nat_lit 108, nat_lit 101, nat_lit 9, nat_lit 52, nat_lit 95, nat_lit 102, nat_lit 114, nat_lit 111, nat_lit 122, nat_lit 101, nat_lit 110, nat_lit 95, nat_lit 105, nat_lit 109, nat_lit 112, nat_lit 111, nat_lit 114, nat_lit 116, nat_lit 108, nat_lit 105, nat_lit 98, nat_lit 46, nat_lit 66, nat_lit 117, nat_lit 105, nat_lit 108, nat_lit 116, nat_lit 105, nat_lit 110, nat_lit 73, nat_lit 109, nat_lit 112, nat_lit 111, nat_lit 114, nat_lit 116, nat_lit 101, nat_lit 114, nat_lit 46, nat_lit 101, nat_lit 120, nat_lit 101, nat_lit 99, nat_lit 95, nat_lit 109, nat_lit 111, nat_lit 100, nat_lit 117, nat_lit 108, nat_lit 101, nat_lit 35, nat_lit 111, nat_lit 112, nat_lit 97, nat_lit 113, nat_lit 117, nat_lit 101, nat_lit 6, nat_lit 196, nat_lit 8, nat_lit 103, nat_lit 101, nat_lit 116, nat_lit 95, nat_lit 99, nat_lit 111, nat_lit 100, nat_lit 101, nat_lit 9, nat_lit 49, nat_lit 95, nat_lit 102, nat_lit 114, nat_lit 111, nat_lit 122, nat_lit 101, nat_lit 110, nat_lit 95, nat_lit 105, nat_lit 109, nat_lit 112, nat_lit 111, nat_lit 114, nat_lit 116, nat_lit 108, nat_lit 105, nat_lit 98, nat_lit 46, nat_lit 66, nat_lit 117, nat_lit 105, nat_lit 108, nat_lit 116, nat_lit 105, nat_lit 110, nat_lit 73, nat_lit 109, nat_lit 112, nat_lit 111, nat_lit 114, nat_lit 116, nat_lit 101, nat_lit 114, nat_lit 46, nat_lit 103, nat_lit 101, nat_lit 116, nat_lit 95, nat_lit 99, nat_lit 111, nat_lit 100, nat_lit 101, nat_lit 35, nat_lit 111, nat_lit 112, nat_lit 97, nat_lit 113, nat_lit 117, nat_lit 101, nat_lit 6, nat_lit 197, nat_lit 10, nat_lit 103, nat_lit 101, nat_lit 116, nat_lit 95, nat_lit 115, nat_lit 111, nat_lit 117, nat_lit 114, nat_lit 99, nat_lit 101, nat_lit 9, nat_lit 51, nat_lit 95, nat_lit 102, nat_lit 114, nat_lit 111, nat_lit 122, nat_lit 101, nat_lit 110, nat_lit 95, nat_lit 105, nat_lit 109, nat_lit 112, nat_lit 111, nat_lit 114, nat_lit 116, nat_lit 108, nat_lit 105, nat_lit 98, nat_lit 46, nat_lit 66, nat_lit 117, nat_lit 105, nat_lit 108, nat_lit 116, nat_lit 105, nat_lit 110, nat_lit 73, nat_lit 109, nat_lit 112, nat_lit 111, nat_lit 114, nat_lit 116, nat_lit 101, nat_lit 114, nat_lit 46, nat_lit 103, nat_lit 101, nat_lit 116, nat_lit 95, nat_lit 115, nat_lit 111, nat_lit 117, nat_lit 114, nat_lit 99, nat_lit 101, nat_lit 35, nat_lit 111, nat_lit 112, nat_lit 97, nat_lit 113, nat_lit 117, nat_lit 101, nat_lit 6, nat_lit 198, nat_lit 10, nat_lit 105, nat_lit 115, nat_lit 95, nat_lit 112, nat_lit 97, nat_lit 99, nat_lit 107, nat_lit 97, nat_lit 103, nat_lit 101, nat_lit 9, nat_lit 51, nat_lit 95, nat_lit 102, nat_lit 114, nat_lit 111, nat_lit 122, nat_lit 101, nat_lit 110, nat_lit 95, nat_lit 105, nat_lit 109, nat_lit 112, nat_lit 111, nat_lit 114, nat_lit 116, nat_lit 108, nat_lit 105, nat_lit 98, nat_lit 46, nat_lit 66, nat_lit 117, nat_lit 105, nat_lit 108, nat_lit 116, nat_lit 105, nat_lit 110, nat_lit 73, nat_lit 109, nat_lit 112, nat_lit 111, nat_lit 114, nat_lit 116, nat_lit 101, nat_lit 114, nat_lit 46, nat_lit 105, nat_lit 115, nat_lit 95, nat_lit 112, nat_lit 97, nat_lit 99, nat_lit 107, nat_lit 97, nat_lit 103, nat_lit 101, nat_lit 35, nat_lit 111, nat_lit 112, nat_lit 97, nat_lit 113, nat_lit 117, nat_lit 101, nat_lit 6, nat_lit 199, nat_lit 11, nat_lit 108, nat_lit 111, nat_lit 97, nat_lit 100, nat_lit 95, nat_lit 109, nat_lit 111, nat_lit 100, nat_lit 117, nat_lit 108, nat_lit 101, nat_lit 9, nat_lit 52, nat_lit 95, nat_lit 102, nat_lit 114, nat_lit 111, nat_lit 122, nat_lit 101, nat_lit 110, nat_lit 95, nat_lit 105, nat_lit 109, nat_lit 112, nat_lit 111, nat_lit 114, nat_lit 116, nat_lit 108, nat_lit 105, nat_lit 98, nat_lit 46, nat_lit 66, nat_lit 117, nat_lit 105, nat_lit 108, nat_lit 116, nat_lit 105, nat_lit 110, nat_lit 73, nat_lit 109, nat_lit 112, nat_lit 111, nat_lit 114, nat_lit 116, nat_lit 101, nat_lit 114, nat_lit 46, nat_lit 108, nat_lit 111, nat_lit 97, nat_lit 100, nat_lit 95, nat_lit 109, nat_lit 111, nat_lit 100, nat_lit 117, nat_lit 108, nat_lit 101, nat_lit 35, nat_lit 111, nat_lit 112, nat_lit 97, nat_lit 113, nat_lit 117, nat_lit 101, nat_lit 6, nat_lit 200, nat_lit 21, nat_lit 95, nat_lit 95, nat_lit 115, nat_lit 116, nat_lit 97, nat_lit 116, nat_lit 105, nat_lit 99, nat_lit 95, nat_lit 97, nat_lit 116, nat_lit 116, nat_lit 114, nat_lit 105, nat_lit 98, nat_lit 117, nat_lit 116, nat_lit 101, nat_lit 115, nat_lit 95, nat_lit 95, nat_lit 4, nat_lit 0, nat_lit 0, nat_lit 15, nat_lit 6, nat_lit 202, nat_lit 8, nat_lit 95, nat_lit 95, nat_lit 100, nat_lit 105, nat_lit 99, nat_lit 116, nat_lit 95, nat_lit 95, nat_lit 4, nat_lit 0, nat_lit 0, nat_lit 16, nat_lit 6, nat_lit 204, nat_lit 11, nat_lit 95, nat_lit 95, nat_lit 119, nat_lit 101, nat_lit 97, nat_lit 107, nat_lit 114, nat_lit 101, nat_lit 102, nat_lit 95, nat_lit 95, nat_lit 4, nat_lit 0, nat_lit 0, nat_lit 17])
noncomputable def s_208 : Str := Str.mk (Array.mk [nat_lit 6, nat_lit 227, nat_lit 10, nat_lit 95, nat_lit 95, nat_lit 109, nat_lit 111, nat_lit 100, nat_lit 117, nat_lit 108, nat_lit 101, nat_lit 95, nat_lit 95, nat_lit 6, nat_lit 217, nat_lit 17, nat_lit 95, nat_lit 102, nat_lit 114, nat_lit 111, nat_lit 122, nat_lit 101, nat_lit 110, nat_lit 95, nat_lit 105, nat_lit 109, nat_lit 112, nat_lit 111, nat_lit 114, nat_lit 116, nat_lit 108, nat_lit 105, nat_lit 98, nat_lit 6, nat_lit 228, nat_lit 15, nat_lit 95, nat_lit 95, nat_lit 102, nat_lit 105, nat_lit 114, nat_lit 115, nat_lit 116, nat_lit 108, nat_lit 105, nat_lit 110, nat_lit 101, nat_lit 110, nat_lit 111, nat_lit 95, nat_lit 95, nat_lit 4, nat_lit 218, nat_lit 0, nat_lit 562, nat_lit 6, nat_lit 229, nat_lit 7, nat_lit 95, nat_lit 95, nat_lit 100, nat_lit 111, nat_lit 99, nat_lit 95, nat_lit 95, nat_lit 9, nat_lit 47, nat_lit 95, nat_lit 102, nat_lit 114, nat_lit 111, nat_lit 122, nat_lit 101, nat_lit 110, nat_lit 95, nat_lit 105, nat_lit 109, nat_lit 112, nat_lit 111, nat_lit 114, nat_lit 116, nat_lit 108, nat_lit 105, nat_lit 98, nat_lit 46, nat_lit 77, nat_lit 111, nat_lit 100, nat_lit 117, nat_lit 108, nat_lit 101, nat_lit 83, nat_lit 112, nat_lit 101, nat_lit 99, nat_lit 46, nat_lit 95, nat_lit 95, nat_lit 100, nat_lit 111, nat_lit 99, nat_lit 95, nat_lit 95, nat_lit 58, nat_lit 115, nat_lit 116, nat_lit 114, nat_lit 35, nat_lit 111, nat_lit 112, nat_lit 97, nat_lit 113, nat_lit 117, nat_lit 101, nat_lit 6, nat_lit 230, nat_lit 8, nat_lit 95, nat_lit 95, nat_lit 105, nat_lit 110, nat_lit 105, nat_lit 116, nat_lit 95, nat_lit 95, nat_lit 9, nat_lit 44, nat_lit 95, nat_lit 102, nat_lit 114, nat_lit 111, nat_lit 122, nat_lit 101, nat_lit 110, nat_lit 95, nat_lit 105, nat_lit 109, nat_lit 112, nat_lit 111, nat_lit 114, nat_lit 116, nat_lit 108, nat_lit 105, nat_lit 98, nat_lit 46, nat_lit 77, nat_lit 111, nat_lit 100, nat_lit 117, nat_lit 108, nat_lit 101, nat_lit 83, nat_lit 112, nat_lit 101, nat_lit 99, nat_lit 46, nat_lit 95, nat_lit 95, nat_lit 105, nat_lit 110, nat_lit 105, nat_lit 116, nat_lit 95, nat_lit 95, nat_lit 35, nat_lit 111, nat_lit 112, nat_lit 97, nat_lit 113, nat_lit 117, nat_lit 101, nat_lit 6, nat_lit 231, nat_lit 8, nat_lit 95, nat_lit 95, nat_lit 114, nat_lit 101, nat_lit 112, nat_lit 114, nat_lit 95, nat_lit 95, nat_lit 9, nat_lit 44, nat_lit 95, nat_lit 102, nat_lit 114, nat_lit 111, nat_lit 122, nat_lit 101, nat_lit 110, nat_lit 95, nat_lit 105, nat_lit 109, nat_lit 112, nat_lit 111, nat_lit 114, nat_lit 116, nat_lit 108, nat_lit 105, nat_lit 98, nat_lit 46, nat_lit 77, nat_lit 111, nat_lit 100, nat_lit 117, nat_lit 108, nat_lit 101, nat_lit 83, nat_lit 112, nat_lit 101, nat_lit 99, nat_lit 46, nat_lit 95, nat_lit 95, nat_lit 114, nat_lit 101, nat_lit 112, nat_lit 114, nat_lit 95, nat_lit 95, nat_lit 35, nat_lit 111, nat_lit 112, nat_lit 97, nat_lit 113, nat_lit 117, nat_lit 101, nat_lit 6, nat_lit 232, nat_lit 6, nat_lit 95, nat_lit 95, nat_lit 101, nat_lit 113, nat_lit 95, nat_lit 95, nat_lit 9, nat_lit 42, nat_lit 95, nat_lit 102, nat_lit 114, nat_lit 111, nat_lit 122, nat_lit 101, nat_lit 110, nat_lit 95, nat_lit 105, nat_lit 109, nat_lit 112, nat_lit 111, nat_lit 114, nat_lit 116, nat_lit 108, nat_lit 105, nat_lit 98, nat_lit 46, nat_lit 77, nat_lit 111, nat_lit 100, nat_lit 117, nat_lit 108, nat_lit 101, nat_lit 83, nat_lit 112, nat_lit 101, nat_lit 99, nat_lit 46, nat_lit 95, nat_lit 95, nat_lit 101, nat_lit 113, nat_lit 95, nat_lit 95, nat_lit 35, nat_lit 111, nat_lit 112, nat_lit 97, nat_lit 113, nat_lit 117, nat_lit 101, nat_lit 6, nat_lit 233, nat_lit 6, nat_lit 99, nat_lit 97, nat_lit 99, nat_lit 104, nat_lit 101, nat_lit 100, nat_lit 9, nat_lit 42, nat_lit 95, nat_lit 102, nat_lit 114, nat_lit 111, nat_lit 122, nat_lit 101, nat_lit 110, nat_lit 95, nat_lit 105, nat_lit 109, nat_lit 112, nat_lit 111, nat_lit 114, nat_lit 116, nat_lit 108, nat_lit 105, nat_lit 98, nat_lit 46, nat_lit 77, nat_lit 111, nat_lit 100, nat_lit 117, nat_lit 108, nat_lit 101, nat_lit 83, nat_lit 112, nat_lit 101, nat_lit 99, nat_lit 46, nat_lit 99, nat_lit 97, nat_lit 99, nat_lit 104, nat_lit 101, nat_lit 100, nat_lit 35, nat_lit 111, nat_lit 112, nat_lit 97, nat_lit 113, nat_lit 117, nat_lit 101, nat_lit 6, nat_lit 234, nat_lit 6, nat_lit 112, nat_lit 97, nat_lit 114, nat_lit 101, nat_lit 110, nat_lit 116, nat_lit 9, nat_lit 42, nat_lit 95, nat_lit 102, nat_lit 114, nat_lit 111, nat_lit 122, nat_lit 101, nat_lit 110, nat_lit 95, nat_lit 105, nat_lit 109, nat_lit 112, nat_lit 111, nat_lit 114, nat_lit 116, nat_lit 108, nat_lit 105, nat_lit 98, nat_lit 46, nat_lit 77, nat_lit 111, nat_lit 100, nat_lit 117, nat_lit 108, nat_lit 101, nat_lit 83, nat_lit 112, nat_lit 101, nat_lit 99, nat_lit 46, nat_lit 112, nat_lit 97, nat_lit 114, nat_lit 101, nat_lit 110, nat_lit 116, nat_lit 35, nat_lit 111, nat_lit 112, nat_lit 97, nat_lit 113, nat_lit 117, nat_lit 101, nat_lit 6, nat_lit 235, nat_lit 12, nat_lit 104, nat_lit 97, nat_lit 115, nat_lit 95, nat_lit 108, nat_lit 111, nat_lit 99, nat_lit 97, nat_lit 116, nat_lit 105, nat_lit 111, nat_lit 110, nat_lit 9, nat_lit 48, nat_lit 95, nat_lit 102, nat_lit 114, nat_lit 111, nat_lit 122, nat_lit 101, nat_lit 110, nat_lit 95, nat_lit 105, nat_lit 109, nat_lit 112, nat_lit 111, nat_lit 114, nat_lit 116, nat_lit 108, nat_lit 105, nat_lit 98, nat_lit 46, nat_lit 77, nat_lit 111, nat_lit 100, nat_lit 117, nat_lit 108, nat_lit 101, nat_lit 83, nat_lit 112, nat_lit 101, nat_lit 99, nat_lit 46, nat_lit 104, nat_lit 97, nat_lit 115, nat_lit 95, nat_lit 108, nat_lit 111, nat_lit 99, nat_lit 97, nat_lit 116, nat_lit 105, nat_lit 111, nat_lit 110, nat_lit 35, nat_lit 111, nat_lit 112, nat_lit 97, nat_lit 113, nat_lit 117, nat_lit 101, nat_lit 6, nat_lit 236, nat_lit 21, nat_lit 95, nat_lit 95, nat_lit 115, nat_lit 116, nat_lit 97, nat_lit 116, nat_lit 105, nat_lit 99, nat_lit 95, nat_lit 97, nat_lit 116, nat_lit 116, nat_lit 114, nat_lit 105, nat_lit 98, nat_lit 117, nat_lit 116, nat_lit 101, nat_lit 115, nat_lit 95, nat_lit 95, nat_lit 4, nat_lit 0, nat_lit 0, nat_lit 23, nat_lit 6, nat_lit 238, nat_lit 8, nat_lit 95, nat_lit 95, nat_lit 100, nat_lit 105, nat_lit 99, nat_lit 116, nat_lit 95, nat_lit 95, nat_lit 4, nat_lit 0, nat_lit 0, nat_lit 24, nat_lit 6, nat_lit 240, nat_lit 11, nat_lit 95, nat_lit 95, nat_lit 119, nat_lit 101, nat_lit 97, nat_lit 107, nat_lit 114, nat_lit 101, nat_lit 102, nat_lit 95, nat_lit 95, nat_lit 4, nat_lit 0, nat_lit 0, nat_lit 25, nat_lit 6, nat_lit 241, nat_lit 8, nat_lit 95, nat_lit 95, nat_lit 104, nat_lit 97, nat_lit 115, nat_lit 104, nat_lit 95, nat_lit 95, nat_lit 0])
noncomputable def s_209 : Str := Str.mk (Array.mk [nat_lit 110, nat_lit 97, nat_lit 109, nat_lit 101])
noncomputable def s_210 : Str := Str.mk (Array.mk [nat_lit 108, nat_lit 111, nat_lit 97, nat_lit 100, nat_lit 101, nat_lit 114])
noncomputable def s_211 : Str := Str.mk (Array.mk [nat_lit 111, nat_lit 114, nat_lit 105, nat_lit 103, nat_lit 105, nat_lit 110])
noncomputable def s_212 : Str := Str.mk (Array.mk [nat_lit 108, nat_lit 111, nat_lit 97, nat_lit 100, nat_lit 101, nat_lit 114, nat_lit 95, nat_lit 115, nat_lit 116, nat_lit 97, nat_lit 116, nat_lit 101])
noncomputable def s_213 : Str := Str.mk (Array.mk [nat_lit 115, nat_lit 117, nat_lit 98, nat_lit 109, nat_lit 111, nat_lit 100, nat_lit 117, nat_lit 108, nat_lit 101, nat_lit 95, nat_lit 115, nat_lit 101, nat_lit 97, nat_lit 114, nat_lit 99, nat_lit 104, nat_lit 95, nat_lit 108, nat_lit 111, nat_lit 99, nat_lit 97, nat_lit 116, nat_lit 105, nat_lit 111, nat_lit 110, nat_lit 115])
noncomputable def s_214 : Str := Str.mk (Array.mk [nat_lit 95, nat_lit 117, nat_lit 110, nat_lit 105, nat_lit 110, nat_lit 105, nat_lit 116, nat_lit 105, nat_lit 97, nat_lit 108, nat_lit 105, nat_lit 122, nat_lit 101, nat_lit 100, nat_lit 95, nat_lit 115, nat_lit 117, nat_lit 98, nat_lit 109, nat_lit 111, nat_lit 100, nat_lit 117, nat_lit 108, nat_lit 101, nat_lit 115])
noncomputable def s_215 : Str := Str.mk (Array.mk [nat_lit 95, nat_lit 115, nat_lit 101, nat_lit 116, nat_lit 95, nat_lit 102, nat_lit 105, nat_lit 108, nat_lit 101, nat_lit 97, nat_lit 116, nat_lit 116, nat_lit 114])
noncomputable def s_216 : Str := Str.mk (Array.mk [nat_lit 95, nat_lit 99, nat_lit 97, nat_lit 99, nat_lit 104, nat_lit 101, nat_lit 100])
noncomputable def s_217 : Str := Str.mk (Array.mk [nat_lit 95, nat_lit 105, nat_lit 110, nat_lit 105, nat_lit 116, nat_lit 105, nat_lit 97, nat_lit 108, nat_lit 105, nat_lit 122, nat_lit 105, nat_lit 110, nat_lit 103])
noncomputable def s_218 : Str := Str.mk (Array.mk [nat_lit 95, nat_lit 95, nat_lit 105, nat_lit 110, nat_lit 105, nat_lit 116, nat_lit 95, nat_lit 95])
noncomputable def s_219 : Str := Str.mk (Array.mk [nat_lit 95, nat_lit 95, nat_lit 114, nat_lit 101, nat_lit 112, nat_lit 114, nat_lit 95, nat_lit 95])
noncomputable def s_220 : Str := Str.mk (Array.mk [nat_lit 95, nat_lit 95, nat_lit 101, nat_lit 113, nat_lit 95, nat_lit 95])
noncomputable def s_221 : Str := Str.mk (Array.mk [nat_lit 99, nat_lit 97, nat_lit 99, nat_lit 104, nat_lit 101, nat_lit 100])
noncomputable def s_222 : Str := Str.mk (Array.mk [nat_lit 112, nat_lit 97, nat_lit 114, nat_lit 101, nat_lit 110, nat_lit 116])
noncomputable def s_223 : Str := Str.mk (Array.mk [nat_lit 104, nat_lit 97, nat_lit 115, nat_lit 95, nat_lit 108, nat_lit 111, nat_lit 99, nat_lit 97, nat_lit 116, nat_lit 105, nat_lit 111, nat_lit 110])
noncomputable def s_224 : Str := Str.mk (Array.mk [nat_lit 95, nat_lit 95, nat_lit 104, nat_lit 97, nat_lit 115, nat_lit 104, nat_lit 95, nat_lit 95])
noncomputable def s_225 : Str := Str.mk (Array.mk [nat_lit 77, nat_lit 111, nat_lit 100, nat_lit 117, nat_lit 108, nat_lit 101, nat_lit 83, nat_lit 112, nat_lit 101, nat_lit 99])
noncomputable def s_226 : Str := Str.mk (Array.mk [nat_lit 6, nat_lit 247, nat_lit 8, nat_lit 95, nat_lit 95, nat_lit 110, nat_lit 97, nat_lit 109, nat_lit 101, nat_lit 95, nat_lit 95, nat_lit 6, nat_lit 246, nat_lit 4, nat_lit 95, nat_lit 115, nat_lit 114, nat_lit 101, nat_lit 6, nat_lit 248, nat_lit 7, nat_lit 95, nat_lit 95, nat_lit 100, nat_lit 111, nat_lit 99, nat_lit 95, nat_lit 95, nat_lit 0, nat_lit 6, nat_lit 250, nat_lit 11, nat_lit 95, nat_lit 95, nat_lit 112, nat_lit 97, nat_lit 99, nat_lit 107, nat_lit 97, nat_lit 103, nat_lit 101, nat_lit 95, nat_lit 95, nat_lit 6, nat_lit 249, nat_lit 0, nat_lit 6, nat_lit 251, nat_lit 10, nat_lit 95, nat_lit 95, nat_lit 108, nat_lit 111, nat_lit 97, nat_lit 100, nat_lit 101, nat_lit 114, nat_lit 95, nat_lit 95, nat_lit 4, nat_lit 0, nat_lit 0, nat_lit 14, nat_lit 6, nat_lit 252, nat_lit 8, nat_lit 95, nat_lit 95, nat_lit 115, nat_lit 112, nat_lit 101, nat_lit 99, nat_lit 95, nat_lit 95, nat_lit 4, nat_lit 0, nat_lit 0, nat_lit 26, nat_lit 6, nat_lit 253, nat_lit 7, nat_lit 99, nat_lit 111, nat_lit 109, nat_lit 112, nat_lit 105, nat_lit 108, nat_lit 101, nat_lit 9, nat_lit 12, nat_lit 95, nat_lit 115, nat_lit 114, nat_lit 101, nat_lit 46, nat_lit 99, nat_lit 111, nat_lit 109, nat_lit 112, nat_lit 105, nat_lit 108, nat_lit 101, nat_lit 6, nat_lit 254, nat_lit 8, nat_lit 116, nat_lit 101, nat_lit 109, nat_lit 112, nat_lit 108, nat_lit 97, nat_lit 116, nat_lit 101, nat_lit 9, nat_lit 13, nat_lit 95, nat_lit 115, nat_lit 114, nat_lit 101, nat_lit 46, nat_lit 116, nat_lit 101, nat_lit 109, nat_lit 112, nat_lit 108, nat_lit 97, nat_lit 116, nat_lit 101, nat_lit 6, nat_lit 255, nat_lit 11, nat_lit 103, nat_lit 101, nat_lit 116, nat_lit 99, nat_lit 111, nat_lit 100, nat_lit 101, nat_lit 115, nat_lit 105, nat_lit 122, nat_lit 101, nat_lit 9, nat_lit 16, nat_lit 95, nat_lit 115, nat_lit 114, nat_lit 101, nat_lit 46, nat_lit 103, nat_lit 101, nat_lit 116, nat_lit 99, nat_lit 111, nat_lit 100, nat_lit 101, nat_lit 115, nat_lit 105, nat_lit 122, nat_lit 101, nat_lit 6, nat_lit 256, nat_lit 13, nat_lit 97, nat_lit 115, nat_lit 99, nat_lit 105, nat_lit 105, nat_lit 95, nat_lit 105, nat_lit 115, nat_lit 99, nat_lit 97, nat_lit 115, nat_lit 101, nat_lit 100, nat_lit 9, nat_lit 18, nat_lit 95, nat_lit 115, nat_lit 114, nat_lit 101, nat_lit 46, nat_lit 97, nat_lit 115, nat_lit 99, nat_lit 105, nat_lit 105, nat_lit 95, nat_lit 105, nat_lit 115, nat_lit 99, nat_lit 97, nat_lit 115, nat_lit 101, nat_lit 100, nat_lit 6, nat_lit 257, nat_lit 15, nat_lit 117, nat_lit 110, nat_lit 105, nat_lit 99, nat_lit 111, nat_lit 100, nat_lit 101, nat_lit 95, nat_lit 105, nat_lit 115, nat_lit 99, nat_lit 97, nat_lit 115, nat_lit 101, nat_lit 100, nat_lit 9, nat_lit 20, nat_lit 95, nat_lit 115, nat_lit 114, nat_lit 101, nat_lit 46, nat_lit 117, nat_lit 110, nat_lit 105, nat_lit 99, nat_lit 111, nat_lit 100, nat_lit 101, nat_lit 95, nat_lit 105, nat_lit 115, nat_lit 99, nat_lit 97, nat_lit 115, nat_lit 101, nat_lit 100, nat_lit 6, nat_lit 258, nat_lit 13, nat_lit 97, nat_lit 115, nat_lit 99, nat_lit 105, nat_lit 105, nat_lit 95, nat_lit 116, nat_lit 111, nat_lit 108, nat_lit 111, nat_lit 119, nat_lit 101, nat_lit 114, nat_lit 9, nat_lit 18, nat_lit 95, nat_lit 115, nat_lit 114, nat_lit 101, nat_lit 46, nat_lit 97, nat_lit 115, nat_lit 99, nat_lit 105, nat_lit 105, nat_lit 95, nat_lit 116, nat_lit 111, nat_lit 108, nat_lit 111, nat_lit 119, nat_lit 101, nat_lit 114, nat_lit 6, nat_lit 259, nat_lit 15, nat_lit 117, nat_lit 110, nat_lit 105, nat_lit 99, nat_lit 111, nat_lit 100, nat_lit 101, nat_lit 95, nat_lit 116, nat_lit 111, nat_lit 108, nat_lit 111, nat_lit 119, nat_lit 101, nat_lit 114, nat_lit 9, nat_lit 20, nat_lit 95, nat_lit 115, nat_lit 114, nat_lit 101, nat_lit 46, nat_lit 117, nat_lit 110, nat_lit 105, nat_lit 99, nat_lit 111, nat_lit 100, nat_lit 101, nat_lit 95, nat_lit 116, nat_lit 111, nat_lit 108, nat_lit 111, nat_lit 119, nat_lit 101, nat_lit 114, nat_lit 6, nat_lit 261, nat_lit 5, nat_lit 77, nat_lit 65, nat_lit 71, nat_lit 73, nat_lit 67, nat_lit 4, nat_lit 260, nat_lit 0, nat_lit 20230612, nat_lit 6, nat_lit 263, nat_lit 8, nat_lit 67, nat_lit 79, nat_lit 68, nat_lit 69, nat_lit 83, nat_lit 73, nat_lit 90, nat_lit 69, nat_lit 4, nat_lit 262, nat_lit 0, nat_lit 4, nat_lit 6, nat_lit 265, nat_lit 9, nat_lit 77, nat_lit 65, nat_lit 88, nat_lit 82, nat_lit 69, nat_lit 80, nat_lit 69, nat_lit 65, nat_lit 84, nat_lit 4, nat_lit 264, nat_lit 0, nat_lit 4294967295, nat_lit 6, nat_lit 267, nat_lit 9, nat_lit 77, nat_lit 65, nat_lit 88, nat_lit 71, nat_lit 82, nat_lit 79, nat_lit 85, nat_lit 80, nat_lit 83, nat_lit 4, nat_lit 266, nat_lit 0, nat_lit 1073741823, nat_lit 6, nat_lit 269, nat_lit 9, nat_lit 99, nat_lit 111, nat_lit 112, nat_lit 121, nat_lit 114, nat_lit 105, nat_lit 103, nat_lit 104, nat_lit 116, nat_lit 6, nat_lit 268, nat_lit 53, nat_lit 32, nat_lit 83, nat_lit 82, nat_lit 69, nat_lit 32, nat_lit 50, nat_lit 46, nat_lit 50, nat_lit 46, nat_lit 50, nat_lit 32, nat_lit 67, nat_lit 111, nat_lit 112, nat_lit 121, nat_lit 114, nat_lit 105, nat_lit 103, nat_lit 104, nat_lit 116, nat_lit 32, nat_lit 40, nat_lit 99, nat_lit 41, nat_lit 32, nat_lit 49, nat_lit 57, nat_lit 57, nat_lit 55, nat_lit 45, nat_lit 50, nat_lit 48, nat_lit 48, nat_lit 50, nat_lit 32, nat_lit 98, nat_lit 121, nat_lit 32, nat_lit 83, nat_lit 101, nat_lit 99, nat_lit 114, nat_lit 101, nat_lit 116, nat_lit 32, nat_lit 76, nat_lit 97, nat_lit 98, nat_lit 115, nat_lit 32, nat_lit 65, nat_lit 66, nat_lit 32])
noncomputable def s_227 : Str := Str.mk (Array.mk [nat_lit 99, nat_lit 112, nat_lit 121, nat_lit 51, nat_lit 49, nat_lit 51, nat_lit 46, nat_lit 104, nat_lit 101, nat_lit 97, nat_lit 112, nat_lit 113])
noncomputable def s_228 : Str := Str.mk (Array.mk [nat_lit 104, nat_lit 101, nat_lit 97, nat_lit 112, nat_lit 112, nat_lit 117, nat_lit 115, nat_lit 104])
noncomputable def s_229 : Str := Str.mk (Array.mk [nat_lit 104, nat_lit 101, nat_lit 97, nat_lit 112, nat_lit 112, nat_lit 111, nat_lit 112])
noncomputable def s_230 : Str := Str.mk (Array.mk [nat_lit 104, nat_lit 101, nat_lit 97, nat_lit 112, nat_lit 114, nat_lit 101, nat_lit 112, nat_lit 108, nat_lit 97, nat_lit 99, nat_lit 101])
noncomputable def s_231 : Str := Str.mk (Array.mk [nat_lit 104, nat_lit 101, nat_lit 97, nat_lit 112, nat_lit 112, nat_lit 117, nat_lit 115, nat_lit 104, nat_lit 112, nat_lit 111, nat_lit 112])
noncomputable def s_232 : Str := Str.mk (Array.mk [nat_lit 104, nat_lit 101, nat_lit 97, nat_lit 112, nat_lit 105, nat_lit 102, nat_lit 121])
noncomputable def s_233 : Str := Str.mk (Array.mk [nat_lit 95, nat_lit 115, nat_lit 105, nat_lit 102, nat_lit 116, nat_lit 100, nat_lit 111, nat_lit 119, nat_lit 110])
noncomputable def s_234 : Str := Str.mk (Array.mk [nat_lit 95, nat_lit 115, nat_lit 105, nat_lit 102, nat_lit 116, nat_lit 117, nat_lit 112])
noncomputable def s_235 : Str := Str.mk (Array.mk [nat_lit 95, nat_lit 116, nat_lit 119, nat_lit 105, nat_lit 110, nat_lit 95, nat_lit 114, nat_lit 101, nat_lit 95, nat_lit 49])
noncomputable def s_236 : Str := Str.mk (Array.mk [nat_lit 104, nat_lit 101, nat_lit 97, nat_lit 112])
noncomputable def s_237 : Str := Str.mk (Array.mk [nat_lit 105, nat_lit 116, nat_lit 101, nat_lit 109])
noncomputable def s_238 : Str := Str.mk (Array.mk [nat_lit 108, nat_lit 97, nat_lit 115, nat_lit 116, nat_lit 101, nat_lit 108, nat_lit 116])
noncomputable def s_239 : Str := Str.mk (Array.mk [nat_lit 114, nat_lit 101, nat_lit 116, nat_lit 117, nat_lit 114, nat_lit 110, nat_lit 105, nat_lit 116, nat_lit 101, nat_lit 109])
noncomputable def s_240 : Str := Str.mk (Array.mk [nat_lit 120])
noncomputable def s_241 : Str := Str.mk (Array.mk [nat_lit 110])
noncomputable def s_242 : Str := Str.mk (Array.mk [nat_lit 105])
noncomputable def s_243 : Str := Str.mk (Array.mk [nat_lit 115, nat_lit 116, nat_lit 97, nat_lit 114, nat_lit 116, nat_lit 112, nat_lit 111, nat_lit 115])
noncomputable def s_244 : Str := Str.mk (Array.mk [nat_lit 112, nat_lit 111, nat_lit 115])
noncomputable def s_245 : Str := Str.mk (Array.mk [nat_lit 110, nat_lit 101, nat_lit 119, nat_lit 105, nat_lit 116, nat_lit 101, nat_lit 109])
noncomputable def s_246 : Str := Str.mk (Array.mk [nat_lit 112, nat_lit 97, nat_lit 114, nat_lit 101, nat_lit 110, nat_lit 116, nat_lit 112, nat_lit 111, nat_lit 115])
noncomputable def s_247 : Str := Str.mk (Array.mk [nat_lit 101, nat_lit 110, nat_lit 100, nat_lit 112, nat_lit 111, nat_lit 115])
noncomputable def s_248 : Str := Str.mk (Array.mk [nat_lit 99, nat_lit 104, nat_lit 105, nat_lit 108, nat_lit 100, nat_lit 112, nat_lit 111, nat_lit 115])
noncomputable def s_249 : Str := Str.mk (Array.mk [nat_lit 114, nat_lit 105, nat_lit 103, nat_lit 104, nat_lit 116, nat_lit 112, nat_lit 111, nat_lit 115])
noncomputable def s_250 : Str := Str.mk (Array.mk [nat_lit 61, nat_lit 91, nat_lit 97, nat_lit 45, nat_lit 102, nat_lit 65, nat_lit 45, nat_lit 70, nat_lit 48, nat_lit 45, nat_lit 57, nat_lit 93, nat_lit 123, nat_lit 50, nat_lit 125])
noncomputable def s_251 : Str := Str.mk (Array.mk [nat_lit 95, nat_lit 81, nat_lit 85, nat_lit 79, nat_lit 80, nat_lit 82, nat_lit 73, nat_lit 95, nat_lit 77, nat_lit 65, nat_lit 80])
noncomputable def s_252 : Str := Str.mk (Array.mk [nat_lit 61, nat_lit 48, nat_lit 48])
noncomputable def s_253 : Str := Str.mk (Array.mk [nat_lit 61, nat_lit 48, nat_lit 49])
noncomputable def s_254 : Str := Str.mk (Array.mk [nat_lit 61, nat_lit 48, nat_lit 50])
noncomputable def s_255 : Str := Str.mk (Array.mk [nat_lit 61, nat_lit 48, nat_lit 51])
noncomputable def s_256 : Str := Str.mk (Array.mk [nat_lit 61, nat_lit 48, nat_lit 52])
noncomputable def s_257 : Str := Str.mk (Array.mk [nat_lit 61, nat_lit 48, nat_lit 53])
noncomputable def s_258 : Str := Str.mk (Array.mk [nat_lit 61, nat_lit 48, nat_lit 54])
noncomputable def s_259 : Str := Str.mk (Array.mk [nat_lit 61, nat_lit 48, nat_lit 55])
noncomputable def s_260 : Str := Str.mk (Array.mk [nat_lit 61, nat_lit 48, nat_lit 56])
noncomputable def s_261 : Str := Str.mk (Array.mk [nat_lit 61, nat_lit 48, nat_lit 57])
noncomputable def s_262 : Str := Str.mk (Array.mk [nat_lit 61, nat_lit 48, nat_lit 65])
noncomputable def s_263 : Str := Str.mk (Array.mk [nat_lit 61, nat_lit 48, nat_lit 66])
noncomputable def s_264 : Str := Str.mk (Array.mk [nat_lit 61, nat_lit 48, nat_lit 67])
noncomputable def s_265 : Str := Str.mk (Array.mk [nat_lit 61, nat_lit 48, nat_lit 68])
noncomputable def s_266 : Str := Str.mk (Array.mk [nat_lit 61, nat_lit 48, nat_lit 69])
noncomputable def s_267 : Str := Str.mk (Array.mk [nat_lit 61, nat_lit 48, nat_lit 70])
noncomputable def s_268 : Str := Str.mk (Array.mk [nat_lit 61, nat_lit 49, nat_lit 48])
noncomputable def s_269 : Str := Str.mk (Array.mk [nat_lit 61, nat_lit 49, nat_lit 49])
noncomputable def s_270 : Str := Str.mk (Array.mk [nat_lit 61, nat_lit 49, nat_lit 50])
noncomputable def s_271 : Str := Str.mk (Array.mk [nat_lit 61, nat_lit 49, nat_lit 51])
noncomputable def s_272 : Str := Str.mk (Array.mk [nat_lit 61, nat_lit 49, nat_lit 52])
noncomputable def s_273 : Str := Str.mk (Array.mk [nat_lit 61, nat_lit 49, nat_lit 53])
noncomputable def s_274 : Str := Str.mk (Array.mk [nat_lit 61, nat_lit 49, nat_lit 54])
noncomputable def s_275 : Str := Str.mk (Array.mk [nat_lit 61, nat_lit 49, nat_lit 55])
noncomputable def s_276 : Str := Str.mk (Array.mk [nat_lit 61, nat_lit 49, nat_lit 56])
noncomputable def s_277 : Str := Str.mk (Array.mk [nat_lit 61, nat_lit 49, nat_lit 57])
noncomputable def s_278 : Str := Str.mk (Array.mk [nat_lit 61, nat_lit 49, nat_lit 65])
noncomputable def s_279 : Str := Str.mk (Array.mk [nat_lit 61, nat_lit 49, nat_lit 66])
noncomputable def s_280 : Str := Str.mk (Array.mk [nat_lit 61, nat_lit 49, nat_lit 67])
noncomputable def s_281 : Str := Str.mk (Array.mk [nat_lit 61, nat_lit 49, nat_lit 68])
noncomputable def s_282 : Str := Str.mk (Array.mk [nat_lit 61, nat_lit 49, nat_lit 69])
noncomputable def s_283 : Str := Str.mk (Array.mk [nat_lit 61, nat_lit 49, nat_lit 70])
noncomputable def s_284 : Str := Str.mk (Array.mk [nat_lit 61, nat_lit 50, nat_lit 48])
noncomputable def s_285 : Str := Str.mk (Array.mk [nat_lit 61, nat_lit 50, nat_lit 49])
noncomputable def s_286 : Str := Str.mk (Array.mk [nat_lit 61, nat_lit 50, nat_lit 50])
noncomputable def s_287 : Str := Str.mk (Array.mk [nat_lit 61, nat_lit 50, nat_lit 51])
noncomputable def s_288 : Str := Str.mk (Array.mk [nat_lit 61, nat_lit 50, nat_lit 52])
noncomputable def s_289 : Str := Str.mk (Array.mk [nat_lit 61, nat_lit 50, nat_lit 53])
noncomputable def s_290 : Str := Str.mk (Array.mk [nat_lit 61, nat_lit 50, nat_lit 54])
noncomputable def s_291 : Str := Str.mk (Array.mk [nat_lit 61, nat_lit 50, nat_lit 55])
noncomputable def s_292 : Str := Str.mk (Array.mk [nat_lit 61, nat_lit 50, nat_lit 56])
noncomputable def s_293 : Str := Str.mk (Array.mk [nat_lit 61, nat_lit 50, nat_lit 57])
noncomputable def s_294 : Str := Str.mk (Array.mk [nat_lit 61, nat_lit 50, nat_lit 65])
noncomputable def s_295 : Str := Str.mk (Array.mk [nat_lit 61, nat_lit 50, nat_lit 66])
noncomputable def s_296 : Str := Str.mk (Array.mk [nat_lit 61, nat_lit 50, nat_lit 67])
noncomputable def s_297 : Str := Str.mk (Array.mk [nat_lit 61, nat_lit 50, nat_lit 68])
noncomputable def s_298 : Str := Str.mk (Array.mk [nat_lit 61, nat_lit 50, nat_lit 69])
noncomputable def s_299 : Str := Str.mk (Array.mk [nat_lit 61, nat_lit 50, nat_lit 70])
noncomputable def s_300 : Str := Str.mk (Array.mk [nat_lit 61, nat_lit 51, nat_lit 48])
noncomputable def s_301 : Str := Str.mk (Array.mk [nat_lit 61, nat_lit 51, nat_lit 49])
noncomputable def s_302 : Str := Str.mk (Array.mk [nat_lit 61, nat_lit 51, nat_lit 50])
noncomputable def s_303 : Str := Str.mk (Array.mk [nat_lit 61, nat_lit 51, nat_lit 51])
noncomputable def s_304 : Str := Str.mk (Array.mk [nat_lit 61, nat_lit 51, nat_lit 52])
noncomputable def s_305 : Str := Str.mk (Array.mk [nat_lit 61, nat_lit 51, nat_lit 53])
noncomputable def s_306 : Str := Str.mk (Array.mk [nat_lit 61, nat_lit 51, nat_lit 54])
noncomputable def s_307 : Str := Str.mk (Array.mk [nat_lit 61, nat_lit 51, nat_lit 55])
noncomputable def s_308 : Str := Str.mk (Array.mk [nat_lit 61, nat_lit 51, nat_lit 56])
noncomputable def s_309 : Str := Str.mk (Array.mk [nat_lit 61, nat_lit 51, nat_lit 57])
noncomputable def s_310 : Str := Str.mk (Array.mk [nat_lit 61, nat_lit 51, nat_lit 65])
noncomputable def s_311 : Str := Str.mk (Array.mk [nat_lit 61, nat_lit 51, nat_lit 66])
noncomputable def s_312 : Str := Str.mk (Array.mk [nat_lit 61, nat_lit 51, nat_lit 67])
noncomputable def s_313 : Str := Str.mk (Array.mk [nat_lit 61, nat_lit 51, nat_lit 68])
noncomputable def s_314 : Str := Str.mk (Array.mk [nat_lit 61, nat_lit 51, nat_lit 69])
noncomputable def s_315 : Str := Str.mk (Array.mk [nat_lit 61, nat_lit 51, nat_lit 70])
noncomputable def s_316 : Str := Str.mk (Array.mk [nat_lit 61, nat_lit 52, nat_lit 48])
noncomputable def s_317 : Str := Str.mk (Array.mk [nat_lit 61, nat_lit 52, nat_lit 49])
noncomputable def s_318 : Str := Str.mk (Array.mk [nat_lit 61, nat_lit 52, nat_lit 50])
noncomputable def s_319 : Str := Str.mk (Array.mk [nat_lit 61, nat_lit 52, nat_lit 51])
noncomputable def s_320 : Str := Str.mk (Array.mk [nat_lit 61, nat_lit 52, nat_lit 52])
noncomputable def s_321 : Str := Str.mk (Array.mk [nat_lit 61, nat_lit 52, nat_lit 53])
noncomputable def s_322 : Str := Str.mk (Array.mk [nat_lit 61, nat_lit 52, nat_lit 54])
noncomputable def s_323 : Str := Str.mk (Array.mk [nat_lit 61, nat_lit 52, nat_lit 55])
noncomputable def s_324 : Str := Str.mk (Array.mk [nat_lit 61, nat_lit 52, nat_lit 56])
noncomputable def s_325 : Str := Str.mk (Array.mk [nat_lit 61, nat_lit 52, nat_lit 57])
noncomputable def s_326 : Str := Str.mk (Array.mk [nat_lit 61, nat_lit 52, nat_lit 65])
noncomputable def s_327 : Str := Str.mk (Array.mk [nat_lit 61, nat_lit 52, nat_lit 66])
noncomputable def s_328 : Str := Str.mk (Array.mk [nat_lit 61, nat_lit 52, nat_lit 67])
noncomputable def s_329 : Str := Str.mk (Array.mk [nat_lit 61, nat_lit 52, nat_lit 68])
noncomputable def s_330 : Str := Str.mk (Array.mk [nat_lit 61, nat_lit 52, nat_lit 69])
noncomputable def s_331 : Str := Str.mk (Array.mk [nat_lit 61, nat_lit 52, nat_lit 70])
noncomputable def s_332 : Str := Str.mk (Array.mk [nat_lit 61, nat_lit 53, nat_lit 48])
noncomputable def s_333 : Str := Str.mk (Array.mk [nat_lit 61, nat_lit 53, nat_lit 49])
noncomputable def s_334 : Str := Str.mk (Array.mk [nat_lit 61, nat_lit 53, nat_lit 50])
noncomputable def s_335 : Str := Str.mk (Array.mk [nat_lit 61, nat_lit 53, nat_lit 51])
noncomputable def s_336 : Str := Str.mk (Array.mk [nat_lit 61, nat_lit 53, nat_lit 52])
noncomputable def s_337 : Str := Str.mk (Array.mk [nat_lit 61, nat_lit 53, nat_lit 53])
noncomputable def s_338 : Str := Str.mk (Array.mk [nat_lit 61, nat_lit 53, nat_lit 54])
noncomputable def s_339 : Str := Str.mk (Array.mk [nat_lit 61, nat_lit 53, nat_lit 55])
noncomputable def s_340 : Str := Str.mk (Array.mk [nat_lit 61, nat_lit 53, nat_lit 56])
noncomputable def s_341 : Str := Str.mk (Array.mk [nat_lit 61, nat_lit 53, nat_lit 57])
noncomputable def s_342 : Str := Str.mk (Array.mk [nat_lit 61, nat_lit 53, nat_lit 65])
noncomputable def s_343 : Str := Str.mk (Array.mk [nat_lit 61, nat_lit 53, nat_lit 66])
noncomputable def s_344 : Str := Str.mk (Array.mk [nat_lit 61, nat_lit 53, nat_lit 67])
noncomputable def s_345 : Str := Str.mk (Array.mk [nat_lit 61, nat_lit 53, nat_lit 68])
noncomputable def s_346 : Str := Str.mk (Array.mk [nat_lit 61, nat_lit 53, nat_lit 69])
noncomputable def s_347 : Str := Str.mk (Array.mk [nat_lit 61, nat_lit 53, nat_lit 70])
noncomputable def s_348 : Str := Str.mk (Array.mk [nat_lit 61, nat_lit 54, nat_lit 48])
noncomputable def s_349 : Str := Str.mk (Array.mk [nat_lit 61, nat_lit 54, nat_lit 49])
noncomputable def s_350 : Str := Str.mk (Array.mk [nat_lit 61, nat_lit 54, nat_lit 50])
noncomputable def s_351 : Str := Str.mk (Array.mk [nat_lit 61, nat_lit 54, nat_lit 51])
noncomputable def s_352 : Str := Str.mk (Array.mk [nat_lit 61, nat_lit 54, nat_lit 52])
noncomputable def s_353 : Str := Str.mk (Array.mk [nat_lit 61, nat_lit 54, nat_lit 53])
noncomputable def s_354 : Str := Str.mk (Array.mk [nat_lit 61, nat_lit 54, nat_lit 54])
noncomputable def s_355 : Str := Str.mk (Array.mk [nat_lit 61, nat_lit 54, nat_lit 55])
noncomputable def s_356 : Str := Str.mk (Array.mk [nat_lit 61, nat_lit 54, nat_lit 56])
noncomputable def s_357 : Str := Str.mk (Array.mk [nat_lit 61, nat_lit 54, nat_lit 57])
noncomputable def s_358 : Str := Str.mk (Array.mk [nat_lit 61, nat_lit 54, nat_lit 65])
noncomputable def s_359 : Str := Str.mk (Array.mk [nat_lit 61, nat_lit 54, nat_lit 66])
noncomputable def s_360 : Str := Str.mk (Array.mk [nat_lit 61, nat_lit 54, nat_lit 67])
noncomputable def s_361 : Str := Str.mk (Array.mk [nat_lit 61, nat_lit 54, nat_lit 68])
noncomputable def s_362 : Str := Str.mk (Array.mk [nat_lit 61, nat_lit 54, nat_lit 69])
noncomputable def s_363 : Str := Str.mk (Array.mk [nat_lit 61, nat_lit 54, nat_lit 70])
noncomputable def s_364 : Str := Str.mk (Array.mk [nat_lit 61, nat_lit 55, nat_lit 48])
noncomputable def s_365 : Str := Str.mk (Array.mk [nat_lit 61, nat_lit 55, nat_lit 49])
noncomputable def s_366 : Str := Str.mk (Array.mk [nat_lit 61, nat_lit 55, nat_lit 50])
noncomputable def s_367 : Str := Str.mk (Array.mk [nat_lit 61, nat_lit 55, nat_lit 51])
noncomputable def s_368 : Str := Str.mk (Array.mk [nat_lit 61, nat_lit 55, nat_lit 52])
noncomputable def s_369 : Str := Str.mk (Array.mk [nat_lit 61, nat_lit 55, nat_lit 53])
noncomputable def s_370 : Str := Str.mk (Array.mk [nat_lit 61, nat_lit 55, nat_lit 54])
noncomputable def s_371 : Str := Str.mk (Array.mk [nat_lit 61, nat_lit 55, nat_lit 55])
noncomputable def s_372 : Str := Str.mk (Array.mk [nat_lit 61, nat_lit 55, nat_lit 56])
noncomputable def s_373 : Str := Str.mk (Array.mk [nat_lit 61, nat_lit 55, nat_lit 57])
noncomputable def s_374 : Str := Str.mk (Array.mk [nat_lit 61, nat_lit 55, nat_lit 65])
noncomputable def s_375 : Str := Str.mk (Array.mk [nat_lit 61, nat_lit 55, nat_lit 66])
noncomputable def s_376 : Str := Str.mk (Array.mk [nat_lit 61, nat_lit 55, nat_lit 67])
noncomputable def s_377 : Str := Str.mk (Array.mk [nat_lit 61, nat_lit 55, nat_lit 68])
noncomputable def s_378 : Str := Str.mk (Array.mk [nat_lit 61, nat_lit 55, nat_lit 69])
noncomputable def s_379 : Str := Str.mk (Array.mk [nat_lit 61, nat_lit 55, nat_lit 70])
noncomputable def s_380 : Str := Str.mk (Array.mk [nat_lit 61, nat_lit 56, nat_lit 48])
noncomputable def s_381 : Str := Str.mk (Array.mk [nat_lit 61, nat_lit 56, nat_lit 49])
noncomputable def s_382 : Str := Str.mk (Array.mk [nat_lit 61, nat_lit 56, nat_lit 50])
noncomputable def s_383 : Str := Str.mk (Array.mk [nat_lit 61, nat_lit 56, nat_lit 51])
noncomputable def s_384 : Str := Str.mk (Array.mk [nat_lit 61, nat_lit 56, nat_lit 52])
noncomputable def s_385 : Str := Str.mk (Array.mk [nat_lit 61, nat_lit 56, nat_lit 53])
noncomputable def s_386 : Str := Str.mk (Array.mk [nat_lit 61, nat_lit 56, nat_lit 54])
noncomputable def s_387 : Str := Str.mk (Array.mk [nat_lit 61, nat_lit 56, nat_lit 55])
noncomputable def s_388 : Str := Str.mk (Array.mk [nat_lit 61, nat_lit 56, nat_lit 56])
noncomputable def s_389 : Str := Str.mk (Array.mk [nat_lit 61, nat_lit 56, nat_lit 57])
noncomputable def s_390 : Str := Str.mk (Array.mk [nat_lit 61, nat_lit 56, nat_lit 65])
noncomputable def s_391 : Str := Str.mk (Array.mk [nat_lit 61, nat_lit 56, nat_lit 66])
noncomputable def s_392 : Str := Str.mk (Array.mk [nat_lit 61, nat_lit 56, nat_lit 67])
noncomputable def s_393 : Str := Str.mk (Array.mk [nat_lit 61, nat_lit 56, nat_lit 68])
noncomputable def s_394 : Str := Str.mk (Array.mk [nat_lit 61, nat_lit 56, nat_lit 69])
noncomputable def s_395 : Str := Str.mk (Array.mk [nat_lit 61, nat_lit 56, nat_lit 70])
noncomputable def s_396 : Str := Str.mk (Array.mk [nat_lit 61, nat_lit 57, nat_lit 48])
noncomputable def s_397 : Str := Str.mk (Array.mk [nat_lit 61, nat_lit 57, nat_lit 49])
noncomputable def s_398 : Str := Str.mk (Array.mk [nat_lit 61, nat_lit 57, nat_lit 50])
noncomputable def s_399 : Str := Str.mk (Array.mk [nat_lit 61, nat_lit 57, nat_lit 51])
noncomputable def s_400 : Str := Str.mk (Array.mk [nat_lit 61, nat_lit 57, nat_lit 52])
noncomputable def s_401 : Str := Str.mk (Array.mk [nat_lit 61, nat_lit 57, nat_lit 53])
noncomputable def s_402 : Str := Str.mk (Array.mk [nat_lit 61, nat_lit 57, nat_lit 54])
noncomputable def s_403 : Str := Str.mk (Array.mk [nat_lit 61, nat_lit 57, nat_lit 55])
noncomputable def s_404 : Str := Str.mk (Array.mk [nat_lit 61, nat_lit 57, nat_lit 56])
noncomputable def s_405 : Str := Str.mk (Array.mk [nat_lit 61, nat_lit 57, nat_lit 57])
noncomputable def s_406 : Str := Str.mk (Array.mk [nat_lit 61, nat_lit 57, nat_lit 65])
noncomputable def s_407 : Str := Str.mk (Array.mk [nat_lit 61, nat_lit 57, nat_lit 66])
noncomputable def s_408 : Str := Str.mk (Array.mk [nat_lit 61, nat_lit 57, nat_lit 67])
noncomputable def s_409 : Str := Str.mk (Array.mk [nat_lit 61, nat_lit 57, nat_lit 68])
noncomputable def s_410 : Str := Str.mk (Array.mk [nat_lit 61, nat_lit 57, nat_lit 69])
noncomputable def s_411 : Str := Str.mk (Array.mk [nat_lit 61, nat_lit 57, nat_lit 70])
noncomputable def s_412 : Str := Str.mk (Array.mk [nat_lit 61, nat_lit 65, nat_lit 48])
noncomputable def s_413 : Str := Str.mk (Array.mk [nat_lit 61, nat_lit 65, nat_lit 49])
noncomputable def s_414 : Str := Str.mk (Array.mk [nat_lit 61, nat_lit 65, nat_lit 50])
noncomputable def s_415 : Str := Str.mk (Array.mk [nat_lit 61, nat_lit 65, nat_lit 51])
noncomputable def s_416 : Str := Str.mk (Array.mk [nat_lit 61, nat_lit 65, nat_lit 52])
noncomputable def s_417 : Str := Str.mk (Array.mk [nat_lit 61, nat_lit 65, nat_lit 53])
noncomputable def s_418 : Str := Str.mk (Array.mk [nat_lit 61, nat_lit 65, nat_lit 54])
noncomputable def s_419 : Str := Str.mk (Array.mk [nat_lit 61, nat_lit 65, nat_lit 55])
noncomputable def s_420 : Str := Str.mk (Array.mk [nat_lit 61, nat_lit 65, nat_lit 56])
noncomputable def s_421 : Str := Str.mk (Array.mk [nat_lit 61, nat_lit 65, nat_lit 57])
noncomputable def s_422 : Str := Str.mk (Array.mk [nat_lit 61, nat_lit 65, nat_lit 65])
noncomputable def s_423 : Str := Str.mk (Array.mk [nat_lit 61, nat_lit 65, nat_lit 66])
noncomputable def s_424 : Str := Str.mk (Array.mk [nat_lit 61, nat_lit 65, nat_lit 67])
noncomputable def s_425 : Str := Str.mk (Array.mk [nat_lit 61, nat_lit 65, nat_lit 68])
noncomputable def s_426 : Str := Str.mk (Array.mk [nat_lit 61, nat_lit 65, nat_lit 69])
noncomputable def s_427 : Str := Str.mk (Array.mk [nat_lit 61, nat_lit 65, nat_lit 70])
noncomputable def s_428 : Str := Str.mk (Array.mk [nat_lit 61, nat_lit 66, nat_lit 48])
noncomputable def s_429 : Str := Str.mk (Array.mk [nat_lit 61, nat_lit 66, nat_lit 49])
noncomputable def s_430 : Str := Str.mk (Array.mk [nat_lit 61, nat_lit 66, nat_lit 50])
noncomputable def s_431 : Str := Str.mk (Array.mk [nat_lit 61, nat_lit 66, nat_lit 51])
noncomputable def s_432 : Str := Str.mk (Array.mk [nat_lit 61, nat_lit 66, nat_lit 52])
noncomputable def s_433 : Str := Str.mk (Array.mk [nat_lit 61, nat_lit 66, nat_lit 53])
noncomputable def s_434 : Str := Str.mk (Array.mk [nat_lit 61, nat_lit 66, nat_lit 54])
noncomputable def s_435 : Str := Str.mk (Array.mk [nat_lit 61, nat_lit 66, nat_lit 55])
noncomputable def s_436 : Str := Str.mk (Array.mk [nat_lit 61, nat_lit 66, nat_lit 56])
noncomputable def s_437 : Str := Str.mk (Array.mk [nat_lit 61, nat_lit 66, nat_lit 57])
noncomputable def s_438 : Str := Str.mk (Array.mk [nat_lit 61, nat_lit 66, nat_lit 65])
noncomputable def s_439 : Str := Str.mk (Array.mk [nat_lit 61, nat_lit 66, nat_lit 66])
noncomputable def s_440 : Str := Str.mk (Array.mk [nat_lit 61, nat_lit 66, nat_lit 67])
noncomputable def s_441 : Str := Str.mk (Array.mk [nat_lit 61, nat_lit 66, nat_lit 68])
noncomputable def s_442 : Str := Str.mk (Array.mk [nat_lit 61, nat_lit 66, nat_lit 69])
noncomputable def s_443 : Str := Str.mk (Array.mk [nat_lit 61, nat_lit 66, nat_lit 70])
noncomputable def s_444 : Str := Str.mk (Array.mk [nat_lit 61, nat_lit 67, nat_lit 48])
noncomputable def s_445 : Str := Str.mk (Array.mk [nat_lit 61, nat_lit 67, nat_lit 49])
noncomputable def s_446 : Str := Str.mk (Array.mk [nat_lit 61, nat_lit 67, nat_lit 50])
noncomputable def s_447 : Str := Str.mk (Array.mk [nat_lit 61, nat_lit 67, nat_lit 51])
noncomputable def s_448 : Str := Str.mk (Array.mk [nat_lit 61, nat_lit 67, nat_lit 52])
noncomputable def s_449 : Str := Str.mk (Array.mk [nat_lit 61, nat_lit 67, nat_lit 53])
noncomputable def s_450 : Str := Str.mk (Array.mk [nat_lit 61, nat_lit 67, nat_lit 54])
noncomputable def s_451 : Str := Str.mk (Array.mk [nat_lit 61, nat_lit 67, nat_lit 55])
noncomputable def s_452 : Str := Str.mk (Array.mk [nat_lit 61, nat_lit 67, nat_lit 56])
noncomputable def s_453 : Str := Str.mk (Array.mk [nat_lit 61, nat_lit 67, nat_lit 57])
noncomputable def s_454 : Str := Str.mk (Array.mk [nat_lit 61, nat_lit 67, nat_lit 65])
noncomputable def s_455 : Str := Str.mk (Array.mk [nat_lit 61, nat_lit 67, nat_lit 66])
noncomputable def s_456 : Str := Str.mk (Array.mk [nat_lit 61, nat_lit 67, nat_lit 67])
noncomputable def s_457 : Str := Str.mk (Array.mk [nat_lit 61, nat_lit 67, nat_lit 68])
noncomputable def s_458 : Str := Str.mk (Array.mk [nat_lit 61, nat_lit 67, nat_lit 69])
noncomputable def s_459 : Str := Str.mk (Array.mk [nat_lit 61, nat_lit 67, nat_lit 70])
noncomputable def s_460 : Str := Str.mk (Array.mk [nat_lit 61, nat_lit 68, nat_lit 48])
noncomputable def s_461 : Str := Str.mk (Array.mk [nat_lit 61, nat_lit 68, nat_lit 49])
noncomputable def s_462 : Str := Str.mk (Array.mk [nat_lit 61, nat_lit 68, nat_lit 50])
noncomputable def s_463 : Str := Str.mk (Array.mk [nat_lit 61, nat_lit 68, nat_lit 51])
noncomputable def s_464 : Str := Str.mk (Array.mk [nat_lit 61, nat_lit 68, nat_lit 52])
noncomputable def s_465 : Str := Str.mk (Array.mk [nat_lit 61, nat_lit 68, nat_lit 53])
noncomputable def s_466 : Str := Str.mk (Array.mk [nat_lit 61, nat_lit 68, nat_lit 54])
noncomputable def s_467 : Str := Str.mk (Array.mk [nat_lit 61, nat_lit 68, nat_lit 55])
noncomputable def s_468 : Str := Str.mk (Array.mk [nat_lit 61, nat_lit 68, nat_lit 56])
noncomputable def s_469 : Str := Str.mk (Array.mk [nat_lit 61, nat_lit 68, nat_lit 57])
noncomputable def s_470 : Str := Str.mk (Array.mk [nat_lit 61, nat_lit 68, nat_lit 65])
noncomputable def s_471 : Str := Str.mk (Array.mk [nat_lit 61, nat_lit 68, nat_lit 66])
noncomputable def s_472 : Str := Str.mk (Array.mk [nat_lit 61, nat_lit 68, nat_lit 67])
noncomputable def s_473 : Str := Str.mk (Array.mk [nat_lit 61, nat_lit 68, nat_lit 68])
noncomputable def s_474 : Str := Str.mk (Array.mk [nat_lit 61, nat_lit 68, nat_lit 69])
noncomputable def s_475 : Str := Str.mk (Array.mk [nat_lit 61, nat_lit 68, nat_lit 70])
noncomputable def s_476 : Str := Str.mk (Array.mk [nat_lit 61, nat_lit 69, nat_lit 48])
noncomputable def s_477 : Str := Str.mk (Array.mk [nat_lit 61, nat_lit 69, nat_lit 49])
noncomputable def s_478 : Str := Str.mk (Array.mk [nat_lit 61, nat_lit 69, nat_lit 50])
noncomputable def s_479 : Str := Str.mk (Array.mk [nat_lit 61, nat_lit 69, nat_lit 51])
noncomputable def s_480 : Str := Str.mk (Array.mk [nat_lit 61, nat_lit 69, nat_lit 52])
noncomputable def s_481 : Str := Str.mk (Array.mk [nat_lit 61, nat_lit 69, nat_lit 53])
noncomputable def s_482 : Str := Str.mk (Array.mk [nat_lit 61, nat_lit 69, nat_lit 54])
noncomputable def s_483 : Str := Str.mk (Array.mk [nat_lit 61, nat_lit 69, nat_lit 55])
noncomputable def s_484 : Str := Str.mk (Array.mk [nat_lit 61, nat_lit 69, nat_lit 56])
noncomputable def s_485 : Str := Str.mk (Array.mk [nat_lit 61, nat_lit 69, nat_lit 57])
noncomputable def s_486 : Str := Str.mk (Array.mk [nat_lit 61, nat_lit 69, nat_lit 65])
noncomputable def s_487 : Str := Str.mk (Array.mk [nat_lit 61, nat_lit 69, nat_lit 66])
noncomputable def s_488 : Str := Str.mk (Array.mk [nat_lit 61, nat_lit 69, nat_lit 67])
noncomputable def s_489 : Str := Str.mk (Array.mk [nat_lit 61, nat_lit 69, nat_lit 68])
noncomputable def s_490 : Str := Str.mk (Array.mk [nat_lit 61, nat_lit 69, nat_lit 69])
noncomputable def s_491 : Str := Str.mk (Array.mk [nat_lit 61, nat_lit 69, nat_lit 70])
noncomputable def s_492 : Str := Str.mk (Array.mk [nat_lit 61, nat_lit 70, nat_lit 48])
noncomputable def s_493 : Str := Str.mk (Array.mk [nat_lit 61, nat_lit 70, nat_lit 49])
noncomputable def s_494 : Str := Str.mk (Array.mk [nat_lit 61, nat_lit 70, nat_lit 50])
noncomputable def s_495 : Str := Str.mk (Array.mk [nat_lit 61, nat_lit 70, nat_lit 51])
noncomputable def s_496 : Str := Str.mk (Array.mk [nat_lit 61, nat_lit 70, nat_lit 52])
noncomputable def s_497 : Str := Str.mk (Array.mk [nat_lit 61, nat_lit 70, nat_lit 53])
noncomputable def s_498 : Str := Str.mk (Array.mk [nat_lit 61, nat_lit 70, nat_lit 54])
noncomputable def s_499 : Str := Str.mk (Array.mk [nat_lit 61, nat_lit 70, nat_lit 55])
noncomputable def s_500 : Str := Str.mk (Array.mk [nat_lit 61, nat_lit 70, nat_lit 56])
noncomputable def s_501 : Str := Str.mk (Array.mk [nat_lit 61, nat_lit 70, nat_lit 57])
noncomputable def s_502 : Str := Str.mk (Array.mk [nat_lit 61, nat_lit 70, nat_lit 65])
noncomputable def s_503 : Str := Str.mk (Array.mk [nat_lit 61, nat_lit 70, nat_lit 66])
noncomputable def s_504 : Str := Str.mk (Array.mk [nat_lit 61, nat_lit 70, nat_lit 67])
noncomputable def s_505 : Str := Str.mk (Array.mk [nat_lit 61, nat_lit 70, nat_lit 68])
noncomputable def s_506 : Str := Str.mk (Array.mk [nat_lit 61, nat_lit 70, nat_lit 69])
noncomputable def s_507 : Str := Str.mk (Array.mk [nat_lit 61, nat_lit 70, nat_lit 70])
noncomputable def s_508 : Str := Str.mk (Array.mk [nat_lit 99, nat_lit 112, nat_lit 121, nat_lit 51, nat_lit 49, nat_lit 51, nat_lit 46, nat_lit 101, nat_lit 109, nat_lit 97, nat_lit 105, nat_lit 108, nat_lit 46, nat_lit 113, nat_lit 117, nat_lit 111, nat_lit 112, nat_lit 114, nat_lit 105, nat_lit 109, nat_lit 105, nat_lit 109, nat_lit 101])
noncomputable def s_509 : Str := Str.mk (Array.mk [nat_lit 95, nat_lit 81, nat_lit 85, nat_lit 79, nat_lit 80, nat_lit 82, nat_lit 73, nat_lit 95, nat_lit 72, nat_lit 69, nat_lit 65, nat_lit 68, nat_lit 69, nat_lit 82, nat_lit 95, nat_lit 77, nat_lit 65, nat_lit 80])
noncomputable def s_510 : Str := Str.mk (Array.mk [nat_lit 95, nat_lit 81, nat_lit 85, nat_lit 79, nat_lit 80, nat_lit 82, nat_lit 73, nat_lit 95, nat_lit 66, nat_lit 79, nat_lit 68, nat_lit 89, nat_lit 95, nat_lit 77, nat_lit 65, nat_lit 80])
noncomputable def s_511 : Str := Str.mk (Array.mk [nat_lit 97, nat_lit 115, nat_lit 99, nat_lit 105, nat_lit 105, nat_lit 95, nat_lit 108, nat_lit 111, nat_lit 119, nat_lit 101, nat_lit 114, nat_lit 99, nat_lit 97, nat_lit 115, nat_lit 101])
noncomputable def s_512 : Str := Str.mk (Array.mk [nat_lit 97, nat_lit 98, nat_lit 99, nat_lit 100, nat_lit 101, nat_lit 102, nat_lit 103, nat_lit 104, nat_lit 105, nat_lit 106, nat_lit 107, nat_lit 108, nat_lit 109, nat_lit 110, nat_lit 111, nat_lit 112, nat_lit 113, nat_lit 114, nat_lit 115, nat_lit 116, nat_lit 117, nat_lit 118, nat_lit 119, nat_lit 120, nat_lit 121, nat_lit 122])
noncomputable def s_513 : Str := Str.mk (Array.mk [nat_lit 97, nat_lit 115, nat_lit 99, nat_lit 105, nat_lit 105, nat_lit 95, nat_lit 117, nat_lit 112, nat_lit 112, nat_lit 101, nat_lit 114, nat_lit 99, nat_lit 97, nat_lit 115, nat_lit 101])
noncomputable def s_514 : Str := Str.mk (Array.mk [nat_lit 65, nat_lit 66, nat_lit 67, nat_lit 68, nat_lit 69, nat_lit 70, nat_lit 71, nat_lit 72, nat_lit 73, nat_lit 74, nat_lit 75, nat_lit 76, nat_lit 77, nat_lit 78, nat_lit 79, nat_lit 80, nat_lit 81, nat_lit 82, nat_lit 83, nat_lit 84, nat_lit 85, nat_lit 86, nat_lit 87, nat_lit 88, nat_lit 89, nat_lit 90])
noncomputable def s_515 : Str := Str.mk (Array.mk [nat_lit 97, nat_lit 115, nat_lit 99, nat_lit 105, nat_lit 105, nat_lit 95, nat_lit 108, nat_lit 101, nat_lit 116, nat_lit 116, nat_lit 101, nat_lit 114, nat_lit 115])
noncomputable def s_516 : Str := Str.mk (Array.mk [nat_lit 97, nat_lit 98, nat_lit 99, nat_lit 100, nat_lit 101, nat_lit 102, nat_lit 103, nat_lit 104, nat_lit 105, nat_lit 106, nat_lit 107, nat_lit 108, nat_lit 109, nat_lit 110, nat_lit 111, nat_lit 112, nat_lit 113, nat_lit 114, nat_lit 115, nat_lit 116, nat_lit 117, nat_lit 118, nat_lit 119, nat_lit 120, nat_lit 121, nat_lit 122, nat_lit 65, nat_lit 66, nat_lit 67, nat_lit 68, nat_lit 69, nat_lit 70, nat_lit 71, nat_lit 72, nat_lit 73, nat_lit 74, nat_lit 75, nat_lit 76, nat_lit 77, nat_lit 78, nat_lit 79, nat_lit 80, nat_lit 81, nat_lit 82, nat_lit 83, nat_lit 84, nat_lit 85, nat_lit 86, nat_lit 87, nat_lit 88, nat_lit 89, nat_lit 90])
noncomputable def s_517 : Str := Str.mk (Array.mk [nat_lit 100, nat_lit 105, nat_lit 103, nat_lit 105, nat_lit 116, nat_lit 115])
noncomputable def s_518 : Str := Str.mk (Array.mk [nat_lit 48, nat_lit 49, nat_lit 50, nat_lit 51, nat_lit 52, nat_lit 53, nat_lit 54, nat_lit 55, nat_lit 56, nat_lit 57])
noncomputable def s_519 : Str := Str.mk (Array.mk [nat_lit 99])
noncomputable def s_520 : Str := Str.mk (Array.mk [nat_lit 33])
noncomputable def s_521 : Str := Str.mk (Array.mk [nat_lit 42])
noncomputable def s_522 : Str := Str.mk (Array.mk [nat_lit 43])
noncomputable def s_523 : Str := Str.mk (Array.mk [nat_lit 45])
noncomputable def s_524 : Str := Str.mk (Array.mk [nat_lit 47])
noncomputable def s_525 : Str := Str.mk (Array.mk [nat_lit 48])
noncomputable def s_526 : Str := Str.mk (Array.mk [nat_lit 49])
noncomputable def s_527 : Str := Str.mk (Array.mk [nat_lit 50])
noncomputable def s_528 : Str := Str.mk (Array.mk [nat_lit 51])
noncomputable def s_529 : Str := Str.mk (Array.mk [nat_lit 52])
noncomputable def s_530 : Str := Str.mk (Array.mk [nat_lit 53])
noncomputable def s_531 : Str := Str.mk (Array.mk [nat_lit 54])
noncomputable def s_532 : Str := Str.mk (Array.mk [nat_lit 55])
noncomputable def s_533 : Str := Str.mk (Array.mk [nat_lit 56])
noncomputable def s_534 : Str := Str.mk (Array.mk [nat_lit 57])
noncomputable def s_535 : Str := Str.mk (Array.mk [nat_lit 65])
noncomputable def s_536 : Str := Str.mk (Array.mk [nat_lit 66])
noncomputable def s_537 : Str := Str.mk (Array.mk [nat_lit 67])
noncomputable def s_538 : Str := Str.mk (Array.mk [nat_lit 68])
noncomputable def s_539 : Str := Str.mk (Array.mk [nat_lit 69])
noncomputable def s_540 : Str := Str.mk (Array.mk [nat_lit 70])
noncomputable def s_541 : Str := Str.mk (Array.mk [nat_lit 71])
noncomputable def s_542 : Str := Str.mk (Array.mk [nat_lit 72])
noncomputable def s_543 : Str := Str.mk (Array.mk [nat_lit 73])
noncomputable def s_544 : Str := Str.mk (Array.mk [nat_lit 74])
noncomputable def s_545 : Str := Str.mk (Array.mk [nat_lit 75])
noncomputable def s_546 : Str := Str.mk (Array.mk [nat_lit 76])
noncomputable def s_547 : Str := Str.mk (Array.mk [nat_lit 77])
noncomputable def s_548 : Str := Str.mk (Array.mk [nat_lit 78])
noncomputable def s_549 : Str := Str.mk (Array.mk [nat_lit 79])
noncomputable def s_550 : Str := Str.mk (Array.mk [nat_lit 80])
noncomputable def s_551 : Str := Str.mk (Array.mk [nat_lit 81])
noncomputable def s_552 : Str := Str.mk (Array.mk [nat_lit 82])
noncomputable def s_553 : Str := Str.mk (Array.mk [nat_lit 83])
noncomputable def s_554 : Str := Str.mk (Array.mk [nat_lit 84])
noncomputable def s_555 : Str := Str.mk (Array.mk [nat_lit 85])
noncomputable def s_556 : Str := Str.mk (Array.mk [nat_lit 86])
noncomputable def s_557 : Str := Str.mk (Array.mk [nat_lit 87])
noncomputable def s_558 : Str := Str.mk (Array.mk [nat_lit 88])
noncomputable def s_559 : Str := Str.mk (Array.mk [nat_lit 89])
noncomputable def s_560 : Str := Str.mk (Array.mk [nat_lit 90])
noncomputable def s_561 : Str := Str.mk (Array.mk [nat_lit 97])
noncomputable def s_562 : Str := Str.mk (Array.mk [nat_lit 98])
noncomputable def s_563 : Str := Str.mk (Array.mk [nat_lit 100])
noncomputable def s_564 : Str := Str.mk (Array.mk [nat_lit 101])
noncomputable def s_565 : Str := Str.mk (Array.mk [nat_lit 102])
noncomputable def s_566 : Str := Str.mk (Array.mk [nat_lit 103])
noncomputable def s_567 : Str := Str.mk (Array.mk [nat_lit 104])
noncomputable def s_568 : Str := Str.mk (Array.mk [nat_lit 106])
noncomputable def s_569 : Str := Str.mk (Array.mk [nat_lit 107])
noncomputable def s_570 : Str := Str.mk (Array.mk [nat_lit 108])
noncomputable def s_571 : Str := Str.mk (Array.mk [nat_lit 109])
noncomputable def s_572 : Str := Str.mk (Array.mk [nat_lit 111])
noncomputable def s_573 : Str := Str.mk (Array.mk [nat_lit 112])
noncomputable def s_574 : Str := Str.mk (Array.mk [nat_lit 113])
noncomputable def s_575 : Str := Str.mk (Array.mk [nat_lit 114])
noncomputable def s_576 : Str := Str.mk (Array.mk [nat_lit 115])
noncomputable def s_577 : Str := Str.mk (Array.mk [nat_lit 116])
noncomputable def s_578 : Str := Str.mk (Array.mk [nat_lit 117])
noncomputable def s_579 : Str := Str.mk (Array.mk [nat_lit 118])
noncomputable def s_580 : Str := Str.mk (Array.mk [nat_lit 119])
noncomputable def s_581 : Str := Str.mk (Array.mk [nat_lit 121])
noncomputable def s_582 : Str := Str.mk (Array.mk [nat_lit 122])
noncomputable def s_583 : Str := Str.mk (Array.mk [nat_lit 95])
noncomputable def s_584 : Str := Str.mk (Array.mk [nat_lit 9])
noncomputable def s_585 : Str := Str.mk (Array.mk [nat_lit 32])
noncomputable def s_586 : Str := Str.mk (Array.mk [nat_lit 34])
noncomputable def s_587 : Str := Str.mk (Array.mk [nat_lit 35])
noncomputable def s_588 : Str := Str.mk (Array.mk [nat_lit 36])
noncomputable def s_589 : Str := Str.mk (Array.mk [nat_lit 37])
noncomputable def s_590 : Str := Str.mk (Array.mk [nat_lit 38])
noncomputable def s_591 : Str := Str.mk (Array.mk [nat_lit 39])
noncomputable def s_592 : Str := Str.mk (Array.mk [nat_lit 40])
noncomputable def s_593 : Str := Str.mk (Array.mk [nat_lit 41])
noncomputable def s_594 : Str := Str.mk (Array.mk [nat_lit 44])
noncomputable def s_595 : Str := Str.mk (Array.mk [nat_lit 46])
noncomputable def s_596 : Str := Str.mk (Array.mk [nat_lit 58])
noncomputable def s_597 : Str := Str.mk (Array.mk [nat_lit 59])
noncomputable def s_598 : Str := Str.mk (Array.mk [nat_lit 60])
noncomputable def s_599 : Str := Str.mk (Array.mk [nat_lit 62])
noncomputable def s_600 : Str := Str.mk (Array.mk [nat_lit 63])
noncomputable def s_601 : Str := Str.mk (Array.mk [nat_lit 64])
noncomputable def s_602 : Str := Str.mk (Array.mk [nat_lit 91])
noncomputable def s_603 : Str := Str.mk (Array.mk [nat_lit 92])
noncomputable def s_604 : Str := Str.mk (Array.mk [nat_lit 93])
noncomputable def s_605 : Str := Str.mk (Array.mk [nat_lit 94])
noncomputable def s_606 : Str := Str.mk (Array.mk [nat_lit 96])
noncomputable def s_607 : Str := Str.mk (Array.mk [nat_lit 123])
noncomputable def s_608 : Str := Str.mk (Array.mk [nat_lit 124])
noncomputable def s_609 : Str := Str.mk (Array.mk [nat_lit 125])
noncomputable def s_610 : Str := Str.mk (Array.mk [nat_lit 126])
noncomputable def s_611 : Str := Str.mk (Array.mk [nat_lit 108, nat_lit 97, nat_lit 119, nat_lit 95, nat_lit 110, nat_lit 121, nat_lit 48, nat_lit 49, nat_lit 51, nat_lit 52, nat_lit 95, nat_lit 48, nat_lit 49])
noncomputable def s_612 : Str := Str.mk (Array.mk [nat_lit 117, nat_lit 110, nat_lit 113, nat_lit 117, nat_lit 111, nat_lit 116, nat_lit 101])
noncomputable def s_613 : Str := Str.mk (Array.mk [nat_lit 104, nat_lit 101, nat_lit 97, nat_lit 100, nat_lit 101, nat_lit 114, nat_lit 95, nat_lit 101, nat_lit 110, nat_lit 99, nat_lit 111, nat_lit 100, nat_lit 101])
noncomputable def s_614 : Str := Str.mk (Array.mk [nat_lit 95, nat_lit 81, nat_lit 85, nat_lit 79, nat_lit 80, nat_lit 82, nat_lit 73, nat_lit 95, nat_lit 66, nat_lit 79, nat_lit 68, nat_lit 89, nat_lit 95, nat_lit 69, nat_lit 78, nat_lit 67, nat_lit 79, nat_lit 68, nat_lit 69, nat_lit 95, nat_lit 77, nat_lit 65, nat_lit 80])
noncomputable def s_615 : Str := Str.mk (Array.mk [nat_lit 95, nat_lit 117, nat_lit 110, nat_lit 113, nat_lit 117, nat_lit 111, nat_lit 116, nat_lit 101, nat_lit 95, nat_lit 109, nat_lit 97, nat_lit 116, nat_lit 99, nat_lit 104])
noncomputable def s_616 : Str := Str.mk (Array.mk [nat_lit 104, nat_lit 101, nat_lit 97, nat_lit 100, nat_lit 101, nat_lit 114, nat_lit 95, nat_lit 100, nat_lit 101, nat_lit 99, nat_lit 111, nat_lit 100, nat_lit 101])
noncomputable def s_617 : Str := Str.mk (Array.mk [nat_lit 95, nat_lit 108, nat_lit 97, nat_lit 119, nat_lit 95, nat_lit 111, nat_lit 99, nat_lit 116, nat_lit 101, nat_lit 116, nat_lit 115])
noncomputable def s_618 : Str := Str.mk (Array.mk [nat_lit 95, nat_lit 108, nat_lit 97, nat_lit 119, nat_lit 95, nat_lit 97, nat_lit 115, nat_lit 95, nat_lit 105, nat_lit 116, nat_lit 95, nat_lit 105, nat_lit 115])
noncomputable def s_619 : Str := Str.mk (Array.mk [nat_lit 95, nat_lit 108, nat_lit 97, nat_lit 119, nat_lit 95, nat_lit 119, nat_lit 111, nat_lit 114, nat_lit 100])
noncomputable def s_620 : Str := Str.mk (Array.mk [nat_lit 105, nat_lit 115, nat_lit 111, nat_lit 45, nat_lit 56, nat_lit 56, nat_lit 53, nat_lit 57, nat_lit 45, nat_lit 49])
noncomputable def s_621 : Str := Str.mk (Array.mk [nat_lit 104, nat_lit 101, nat_lit 97, nat_lit 100, nat_lit 101, nat_lit 114, nat_lit 95, nat_lit 98, nat_lit 121, nat_lit 116, nat_lit 101, nat_lit 115])
noncomputable def s_622 : Str := Str.mk (Array.mk [nat_lit 99, nat_lit 104, nat_lit 97, nat_lit 114, nat_lit 115, nat_lit 101, nat_lit 116])
noncomputable def s_623 : Str := Str.mk (Array.mk [nat_lit 101, nat_lit 110, nat_lit 99, nat_lit 111, nat_lit 100, nat_lit 101, nat_lit 100])
noncomputable def s_624 : Str := Str.mk (Array.mk [nat_lit 10])
noncomputable def s_625 : Str := Str.mk (Array.mk [nat_lit 13])
noncomputable def s_626 : Str := Str.mk (Array.mk [nat_lit 109, nat_lit 97, nat_lit 116, nat_lit 99, nat_lit 104])
noncomputable def s_627 : Str := Str.mk (Array.mk [nat_lit 110, nat_lit 117, nat_lit 109, nat_lit 98, nat_lit 101, nat_lit 114])
noncomputable def s_628 : Str := Str.mk (Array.mk [nat_lit 98, nat_lit 111, nat_lit 114, nat_lit 100, nat_lit 101, nat_lit 114, nat_lit 115])
noncomputable def s_629 : Str := Str.mk (Array.mk [nat_lit 111, nat_lit 99, nat_lit 116, nat_lit 101, nat_lit 116, nat_lit 115])
noncomputable def s_630 : Str := Str.mk (Array.mk [nat_lit 102, nat_lit 105, nat_lit 103, nat_lit 117, nat_lit 114, nat_lit 101])
noncomputable def s_631 : Str := Str.mk (Array.mk [nat_lit 111, nat_lit 99, nat_lit 116, nat_lit 101, nat_lit 116])
noncomputable def s_632 : Str := Str.mk (Array.mk [nat_lit 102, nat_lit 105, nat_lit 103, nat_lit 117, nat_lit 114, nat_lit 101, nat_lit 115])
noncomputable def s_633 : Str := Str.mk (Array.mk [nat_lit 119, nat_lit 111, nat_lit 114, nat_lit 100])
noncomputable def s_634 : Str := Str.mk (Array.mk [nat_lit 95, nat_lit 108, nat_lit 97, nat_lit 119, nat_lit 95, nat_lit 114, nat_lit 97, nat_lit 110, nat_lit 107, nat_lit 115])
noncomputable def s_635 : Str := Str.mk (Array.mk [nat_lit 108, nat_lit 97, nat_lit 119])
noncomputable def life0 : Life := ⟨[], [], [], (nat_lit 0), [], [], false, (.mk []), [], (nat_lit 0), false, false, false, (.ofNat (nat_lit 0)), [(.ofNat (nat_lit 2000)), (.ofNat (nat_lit 10)), (.ofNat (nat_lit 10))], false, (nat_lit 0), true, [], [], (nat_lit 0), false⟩
noncomputable def drawn0 : Drawn := ⟨(nat_lit 0), (nat_lit 0), (nat_lit 0), (nat_lit 0)⟩
noncomputable def o_0 (P : Params) : Obj := ⟨(.type "dict"), none, (.dict (.mk [⟨(PyData.keyHash P s_0), (.str s_0 (nat_lit 1)), (.str s_1 (nat_lit 160))⟩, ⟨(PyData.keyHash P s_2), (.str s_2 (nat_lit 2)), (.builtin "builtins.__doc__:str#opaque")⟩, ⟨(PyData.keyHash P s_3), (.str s_3 (nat_lit 3)), (.builtin "builtins.__package__:str#opaque")⟩, ⟨(PyData.keyHash P s_4), (.str s_4 (nat_lit 4)), (.builtin "builtins.__loader__:shared#opaque")⟩, ⟨(PyData.keyHash P s_5), (.str s_5 (nat_lit 5)), (.builtin "builtins.__spec__#opaque")⟩, ⟨(PyData.keyHash P s_6), (.str s_6 (nat_lit 6)), (.builtin "__build_class__")⟩, ⟨(PyData.keyHash P s_7), (.str s_7 (nat_lit 7)), (.builtin "__import__")⟩, ⟨(PyData.keyHash P s_8), (.str s_8 (nat_lit 8)), (.builtin "abs")⟩, ⟨(PyData.keyHash P s_9), (.str s_9 (nat_lit 9)), (.builtin "all")⟩, ⟨(PyData.keyHash P s_10), (.str s_10 (nat_lit 10)), (.builtin "any")⟩, ⟨(PyData.keyHash P s_11), (.str s_11 (nat_lit 11)), (.builtin "ascii")⟩, ⟨(PyData.keyHash P s_12), (.str s_12 (nat_lit 12)), (.builtin "bin")⟩, ⟨(PyData.keyHash P s_13), (.str s_13 (nat_lit 13)), (.builtin "breakpoint")⟩, ⟨(PyData.keyHash P s_14), (.str s_14 (nat_lit 14)), (.builtin "callable")⟩, ⟨(PyData.keyHash P s_15), (.str s_15 (nat_lit 15)), (.builtin "chr")⟩, ⟨(PyData.keyHash P s_16), (.str s_16 (nat_lit 16)), (.builtin "compile")⟩, ⟨(PyData.keyHash P s_17), (.str s_17 (nat_lit 17)), (.builtin "delattr")⟩, ⟨(PyData.keyHash P s_18), (.str s_18 (nat_lit 18)), (.builtin "dir")⟩, ⟨(PyData.keyHash P s_19), (.str s_19 (nat_lit 19)), (.builtin "divmod")⟩, ⟨(PyData.keyHash P s_20), (.str s_20 (nat_lit 20)), (.builtin "eval")⟩, ⟨(PyData.keyHash P s_21), (.str s_21 (nat_lit 21)), (.builtin "exec")⟩, ⟨(PyData.keyHash P s_22), (.str s_22 (nat_lit 22)), (.builtin "format")⟩, ⟨(PyData.keyHash P s_23), (.str s_23 (nat_lit 23)), (.builtin "getattr")⟩, ⟨(PyData.keyHash P s_24), (.str s_24 (nat_lit 24)), (.builtin "globals")⟩, ⟨(PyData.keyHash P s_25), (.str s_25 (nat_lit 25)), (.builtin "hasattr")⟩, ⟨(PyData.keyHash P s_26), (.str s_26 (nat_lit 26)), (.builtin "hash")⟩, ⟨(PyData.keyHash P s_27), (.str s_27 (nat_lit 27)), (.builtin "hex")⟩, ⟨(PyData.keyHash P s_28), (.str s_28 (nat_lit 28)), (.builtin "id")⟩, ⟨(PyData.keyHash P s_29), (.str s_29 (nat_lit 29)), (.builtin "input")⟩, ⟨(PyData.keyHash P s_30), (.str s_30 (nat_lit 30)), (.builtin "isinstance")⟩, ⟨(PyData.keyHash P s_31), (.str s_31 (nat_lit 31)), (.builtin "issubclass")⟩, ⟨(PyData.keyHash P s_32), (.str s_32 (nat_lit 32)), (.builtin "iter")⟩, ⟨(PyData.keyHash P s_33), (.str s_33 (nat_lit 33)), (.builtin "aiter")⟩, ⟨(PyData.keyHash P s_34), (.str s_34 (nat_lit 34)), (.builtin "len")⟩, ⟨(PyData.keyHash P s_35), (.str s_35 (nat_lit 35)), (.builtin "locals")⟩, ⟨(PyData.keyHash P s_36), (.str s_36 (nat_lit 36)), (.builtin "max")⟩, ⟨(PyData.keyHash P s_37), (.str s_37 (nat_lit 37)), (.builtin "min")⟩, ⟨(PyData.keyHash P s_38), (.str s_38 (nat_lit 38)), (.builtin "next")⟩, ⟨(PyData.keyHash P s_39), (.str s_39 (nat_lit 39)), (.builtin "anext")⟩, ⟨(PyData.keyHash P s_40), (.str s_40 (nat_lit 40)), (.builtin "oct")⟩, ⟨(PyData.keyHash P s_41), (.str s_41 (nat_lit 41)), (.builtin "ord")⟩, ⟨(PyData.keyHash P s_42), (.str s_42 (nat_lit 42)), (.builtin "pow")⟩, ⟨(PyData.keyHash P s_43), (.str s_43 (nat_lit 43)), (.builtin "print")⟩, ⟨(PyData.keyHash P s_44), (.str s_44 (nat_lit 44)), (.builtin "repr")⟩, ⟨(PyData.keyHash P s_45), (.str s_45 (nat_lit 45)), (.builtin "round")⟩, ⟨(PyData.keyHash P s_46), (.str s_46 (nat_lit 46)), (.builtin "setattr")⟩, ⟨(PyData.keyHash P s_47), (.str s_47 (nat_lit 47)), (.builtin "sorted")⟩, ⟨(PyData.keyHash P s_48), (.str s_48 (nat_lit 48)), (.builtin "sum")⟩, ⟨(PyData.keyHash P s_49), (.str s_49 (nat_lit 49)), (.builtin "vars")⟩, ⟨(PyData.keyHash P s_50), (.str s_50 (nat_lit 50)), .none⟩, ⟨(PyData.keyHash P s_51), (.str s_51 (nat_lit 51)), .ellipsis⟩, ⟨(PyData.keyHash P s_52), (.str s_52 (nat_lit 52)), .notImplemented⟩, ⟨(PyData.keyHash P s_53), (.str s_53 (nat_lit 53)), (.bool false)⟩, ⟨(PyData.keyHash P s_54), (.str s_54 (nat_lit 54)), (.bool true)⟩, ⟨(PyData.keyHash P s_55), (.str s_55 (nat_lit 55)), (.type "bool")⟩, ⟨(PyData.keyHash P s_56), (.str s_56 (nat_lit 56)), (.type "memoryview")⟩, ⟨(PyData.keyHash P s_57), (.str s_57 (nat_lit 57)), (.type "bytearray")⟩, ⟨(PyData.keyHash P s_58), (.str s_58 (nat_lit 58)), (.type "bytes")⟩, ⟨(PyData.keyHash P s_59), (.str s_59 (nat_lit 59)), (.type "classmethod")⟩, ⟨(PyData.keyHash P s_60), (.str s_60 (nat_lit 60)), (.type "complex")⟩, ⟨(PyData.keyHash P s_61), (.str s_61 (nat_lit 61)), (.type "dict")⟩, ⟨(PyData.keyHash P s_62), (.str s_62 (nat_lit 62)), (.type "enumerate")⟩, ⟨(PyData.keyHash P s_63), (.str s_63 (nat_lit 63)), (.type "filter")⟩, ⟨(PyData.keyHash P s_64), (.str s_64 (nat_lit 64)), (.type "float")⟩, ⟨(PyData.keyHash P s_65), (.str s_65 (nat_lit 65)), (.type "frozenset")⟩, ⟨(PyData.keyHash P s_66), (.str s_66 (nat_lit 66)), (.type "property")⟩, ⟨(PyData.keyHash P s_67), (.str s_67 (nat_lit 67)), (.type "int")⟩, ⟨(PyData.keyHash P s_68), (.str s_68 (nat_lit 68)), (.type "list")⟩, ⟨(PyData.keyHash P s_69), (.str s_69 (nat_lit 69)), (.type "map")⟩, ⟨(PyData.keyHash P s_70), (.str s_70 (nat_lit 70)), (.type "object")⟩, ⟨(PyData.keyHash P s_71), (.str s_71 (nat_lit 71)), (.type "range")⟩, ⟨(PyData.keyHash P s_72), (.str s_72 (nat_lit 72)), (.type "reversed")⟩, ⟨(PyData.keyHash P s_73), (.str s_73 (nat_lit 73)), (.type "set")⟩, ⟨(PyData.keyHash P s_74), (.str s_74 (nat_lit 74)), (.type "slice")⟩, ⟨(PyData.keyHash P s_75), (.str s_75 (nat_lit 75)), (.type "staticmethod")⟩, ⟨(PyData.keyHash P s_76), (.str s_76 (nat_lit 76)), (.type "str")⟩, ⟨(PyData.keyHash P s_77), (.str s_77 (nat_lit 77)), (.type "super")⟩, ⟨(PyData.keyHash P s_78), (.str s_78 (nat_lit 78)), (.type "tuple")⟩, ⟨(PyData.keyHash P s_79), (.str s_79 (nat_lit 79)), (.type "type")⟩, ⟨(PyData.keyHash P s_80), (.str s_80 (nat_lit 80)), (.type "zip")⟩, ⟨(PyData.keyHash P s_81), (.str s_81 (nat_lit 81)), (.bool true)⟩, ⟨(PyData.keyHash P s_82), (.str s_82 (nat_lit 82)), (.type "BaseException")⟩, ⟨(PyData.keyHash P s_83), (.str s_83 (nat_lit 83)), (.type "BaseExceptionGroup")⟩, ⟨(PyData.keyHash P s_84), (.str s_84 (nat_lit 84)), (.type "Exception")⟩, ⟨(PyData.keyHash P s_85), (.str s_85 (nat_lit 85)), (.type "GeneratorExit")⟩, ⟨(PyData.keyHash P s_86), (.str s_86 (nat_lit 86)), (.type "KeyboardInterrupt")⟩, ⟨(PyData.keyHash P s_87), (.str s_87 (nat_lit 87)), (.type "SystemExit")⟩, ⟨(PyData.keyHash P s_88), (.str s_88 (nat_lit 88)), (.type "ArithmeticError")⟩, ⟨(PyData.keyHash P s_89), (.str s_89 (nat_lit 89)), (.type "AssertionError")⟩, ⟨(PyData.keyHash P s_90), (.str s_90 (nat_lit 90)), (.type "AttributeError")⟩, ⟨(PyData.keyHash P s_91), (.str s_91 (nat_lit 91)), (.type "BufferError")⟩, ⟨(PyData.keyHash P s_92), (.str s_92 (nat_lit 92)), (.type "EOFError")⟩, ⟨(PyData.keyHash P s_93), (.str s_93 (nat_lit 93)), (.type "ImportError")⟩, ⟨(PyData.keyHash P s_94), (.str s_94 (nat_lit 94)), (.type "LookupError")⟩, ⟨(PyData.keyHash P s_95), (.str s_95 (nat_lit 95)), (.type "MemoryError")⟩, ⟨(PyData.keyHash P s_96), (.str s_96 (nat_lit 96)), (.type "NameError")⟩, ⟨(PyData.keyHash P s_97), (.str s_97 (nat_lit 97)), (.type "OSError")⟩, ⟨(PyData.keyHash P s_98), (.str s_98 (nat_lit 98)), (.type "ReferenceError")⟩, ⟨(PyData.keyHash P s_99), (.str s_99 (nat_lit 99)), (.type "RuntimeError")⟩, ⟨(PyData.keyHash P s_100), (.str s_100 (nat_lit 100)), (.type "StopAsyncIteration")⟩, ⟨(PyData.keyHash P s_101), (.str s_101 (nat_lit 101)), (.type "StopIteration")⟩, ⟨(PyData.keyHash P s_102), (.str s_102 (nat_lit 102)), (.type "SyntaxError")⟩, ⟨(PyData.keyHash P s_103), (.str s_103 (nat_lit 103)), (.type "SystemError")⟩, ⟨(PyData.keyHash P s_104), (.str s_104 (nat_lit 104)), (.type "TypeError")⟩, ⟨(PyData.keyHash P s_105), (.str s_105 (nat_lit 105)), (.type "ValueError")⟩, ⟨(PyData.keyHash P s_106), (.str s_106 (nat_lit 106)), (.type "Warning")⟩, ⟨(PyData.keyHash P s_107), (.str s_107 (nat_lit 107)), (.type "FloatingPointError")⟩, ⟨(PyData.keyHash P s_108), (.str s_108 (nat_lit 108)), (.type "OverflowError")⟩, ⟨(PyData.keyHash P s_109), (.str s_109 (nat_lit 109)), (.type "ZeroDivisionError")⟩, ⟨(PyData.keyHash P s_110), (.str s_110 (nat_lit 110)), (.type "BytesWarning")⟩, ⟨(PyData.keyHash P s_111), (.str s_111 (nat_lit 111)), (.type "DeprecationWarning")⟩, ⟨(PyData.keyHash P s_112), (.str s_112 (nat_lit 112)), (.type "EncodingWarning")⟩, ⟨(PyData.keyHash P s_113), (.str s_113 (nat_lit 113)), (.type "FutureWarning")⟩, ⟨(PyData.keyHash P s_114), (.str s_114 (nat_lit 114)), (.type "ImportWarning")⟩, ⟨(PyData.keyHash P s_115), (.str s_115 (nat_lit 115)), (.type "PendingDeprecationWarning")⟩, ⟨(PyData.keyHash P s_116), (.str s_116 (nat_lit 116)), (.type "ResourceWarning")⟩, ⟨(PyData.keyHash P s_117), (.str s_117 (nat_lit 117)), (.type "RuntimeWarning")⟩, ⟨(PyData.keyHash P s_118), (.str s_118 (nat_lit 118)), (.type "SyntaxWarning")⟩, ⟨(PyData.keyHash P s_119), (.str s_119 (nat_lit 119)), (.type "UnicodeWarning")⟩, ⟨(PyData.keyHash P s_120), (.str s_120 (nat_lit 120)), (.type "UserWarning")⟩, ⟨(PyData.keyHash P s_121), (.str s_121 (nat_lit 121)), (.type "BlockingIOError")⟩, ⟨(PyData.keyHash P s_122), (.str s_122 (nat_lit 122)), (.type "ChildProcessError")⟩, ⟨(PyData.keyHash P s_123), (.str s_123 (nat_lit 123)), (.type "ConnectionError")⟩, ⟨(PyData.keyHash P s_124), (.str s_124 (nat_lit 124)), (.type "FileExistsError")⟩, ⟨(PyData.keyHash P s_125), (.str s_125 (nat_lit 125)), (.type "FileNotFoundError")⟩, ⟨(PyData.keyHash P s_126), (.str s_126 (nat_lit 126)), (.type "InterruptedError")⟩, ⟨(PyData.keyHash P s_127), (.str s_127 (nat_lit 127)), (.type "IsADirectoryError")⟩, ⟨(PyData.keyHash P s_128), (.str s_128 (nat_lit 128)), (.type "NotADirectoryError")⟩, ⟨(PyData.keyHash P s_129), (.str s_129 (nat_lit 129)), (.type "PermissionError")⟩, ⟨(PyData.keyHash P s_130), (.str s_130 (nat_lit 130)), (.type "ProcessLookupError")⟩, ⟨(PyData.keyHash P s_131), (.str s_131 (nat_lit 131)), (.type "TimeoutError")⟩, ⟨(PyData.keyHash P s_132), (.str s_132 (nat_lit 132)), (.type "IndentationError")⟩, ⟨(PyData.keyHash P s_133), (.str s_133 (nat_lit 133)), (.type "_IncompleteInputError")⟩, ⟨(PyData.keyHash P s_134), (.str s_134 (nat_lit 134)), (.type "IndexError")⟩, ⟨(PyData.keyHash P s_135), (.str s_135 (nat_lit 135)), (.type "KeyError")⟩, ⟨(PyData.keyHash P s_136), (.str s_136 (nat_lit 136)), (.type "ModuleNotFoundError")⟩, ⟨(PyData.keyHash P s_137), (.str s_137 (nat_lit 137)), (.type "NotImplementedError")⟩, ⟨(PyData.keyHash P s_138), (.str s_138 (nat_lit 138)), (.type "PythonFinalizationError")⟩, ⟨(PyData.keyHash P s_139), (.str s_139 (nat_lit 139)), (.type "RecursionError")⟩, ⟨(PyData.keyHash P s_140), (.str s_140 (nat_lit 140)), (.type "UnboundLocalError")⟩, ⟨(PyData.keyHash P s_141), (.str s_141 (nat_lit 141)), (.type "UnicodeError")⟩, ⟨(PyData.keyHash P s_142), (.str s_142 (nat_lit 142)), (.type "BrokenPipeError")⟩, ⟨(PyData.keyHash P s_143), (.str s_143 (nat_lit 143)), (.type "ConnectionAbortedError")⟩, ⟨(PyData.keyHash P s_144), (.str s_144 (nat_lit 144)), (.type "ConnectionRefusedError")⟩, ⟨(PyData.keyHash P s_145), (.str s_145 (nat_lit 145)), (.type "ConnectionResetError")⟩, ⟨(PyData.keyHash P s_146), (.str s_146 (nat_lit 146)), (.type "TabError")⟩, ⟨(PyData.keyHash P s_147), (.str s_147 (nat_lit 147)), (.type "UnicodeDecodeError")⟩, ⟨(PyData.keyHash P s_148), (.str s_148 (nat_lit 148)), (.type "UnicodeEncodeError")⟩, ⟨(PyData.keyHash P s_149), (.str s_149 (nat_lit 149)), (.type "UnicodeTranslateError")⟩, ⟨(PyData.keyHash P s_150), (.str s_150 (nat_lit 150)), (.type "ExceptionGroup")⟩, ⟨(PyData.keyHash P s_151), (.str s_151 (nat_lit 151)), (.type "OSError")⟩, ⟨(PyData.keyHash P s_152), (.str s_152 (nat_lit 152)), (.type "OSError")⟩, ⟨(PyData.keyHash P s_153), (.str s_153 (nat_lit 153)), (.builtin "open")⟩, ⟨(PyData.keyHash P s_154), (.str s_154 (nat_lit 154)), (.builtin "builtins.quit#opaque")⟩, ⟨(PyData.keyHash P s_155), (.str s_155 (nat_lit 155)), (.builtin "builtins.exit#opaque")⟩, ⟨(PyData.keyHash P s_156), (.str s_156 (nat_lit 156)), (.builtin "builtins.copyright#opaque")⟩, ⟨(PyData.keyHash P s_157), (.str s_157 (nat_lit 157)), (.builtin "builtins.credits#opaque")⟩, ⟨(PyData.keyHash P s_158), (.str s_158 (nat_lit 158)), (.builtin "builtins.license#opaque")⟩, ⟨(PyData.keyHash P s_159), (.str s_159 (nat_lit 159)), (.builtin "builtins.help#opaque")⟩]) (nat_lit 159)), (.mk [])⟩
noncomputable def o_1 (P : Params) : Obj := ⟨(.type "dict"), none, (.dict (.mk [⟨(PyData.keyHash P s_1), (.str s_1 (nat_lit 162)), (.ref (nat_lit 4))⟩, ⟨(PyData.keyHash P s_160), (.str s_160 (nat_lit 163)), (.ref (nat_lit 5))⟩, ⟨(PyData.keyHash P s_161), (.str s_161 (nat_lit 244)), (.ref (nat_lit 12))⟩]) (nat_lit 3)), (.mk [])⟩
noncomputable def o_2 (P : Params) : Obj := ⟨.none, none, (.dict (.mk [⟨(PyData.keyHash P s_162), (.str s_162 (nat_lit 183)), (.bool true)⟩, ⟨(PyData.keyHash P s_163), (.str s_163 (nat_lit 185)), (.ref (nat_lit 14))⟩, ⟨(PyData.keyHash P s_164), (.str s_164 (nat_lit 206)), (.ref (nat_lit 18))⟩, ⟨(PyData.keyHash P s_165), (.str s_165 (nat_lit 216)), (.ref (nat_lit 22))⟩, ⟨(PyData.keyHash P s_166), (.str s_166 (nat_lit 245)), (.int (.ofNat (nat_lit 3)) (nat_lit 0))⟩, ⟨(PyData.keyHash P s_167), (.str s_167 (nat_lit 270)), (.bool true)⟩, ⟨(PyData.keyHash P s_168), (.str s_168 (nat_lit 272)), (.ref (nat_lit 27))⟩, ⟨(PyData.keyHash P s_169), (.str s_169 (nat_lit 0)), (.str s_170 (nat_lit 0))⟩, ⟨(PyData.keyHash P s_171), (.str s_171 (nat_lit 273)), (.str s_172 (nat_lit 0))⟩]) (nat_lit 9)), (.mk [])⟩
noncomputable def o_3 (P : Params) : Obj := ⟨(.type "dict"), none, (.dict (.mk [⟨(PyData.keyHash P s_0), (.str s_0 (nat_lit 165)), (.str s_160 (nat_lit 164))⟩, ⟨(PyData.keyHash P s_2), (.str s_2 (nat_lit 166)), .none⟩, ⟨(PyData.keyHash P s_3), (.str s_3 (nat_lit 167)), .none⟩, ⟨(PyData.keyHash P s_4), (.str s_4 (nat_lit 168)), (.builtin "__main__.__loader__#opaque")⟩, ⟨(PyData.keyHash P s_5), (.str s_5 (nat_lit 169)), .none⟩, ⟨(PyData.keyHash P s_173), (.str s_173 (nat_lit 170)), (.ref (nat_lit 6))⟩, ⟨(PyData.keyHash P s_174), (.str s_174 (nat_lit 171)), (.ref (nat_lit 4))⟩, ⟨(PyData.keyHash P s_175), (.str s_175 (nat_lit 173)), (.str s_176 (nat_lit 172))⟩, ⟨(PyData.keyHash P s_177), (.str s_177 (nat_lit 174)), .none⟩, ⟨(PyData.keyHash P s_161), (.str s_161 (nat_lit 275)), (.ref (nat_lit 12))⟩]) (nat_lit 10)), (.mk [])⟩
noncomputable def o_4 (_ : Params) : Obj := ⟨(.type "module"), (some (nat_lit 0)), .plain, (.mk [])⟩
noncomputable def o_5 (_ : Params) : Obj := ⟨(.type "module"), (some (nat_lit 3)), .plain, (.mk [])⟩
noncomputable def o_6 (_ : Params) : Obj := ⟨(.type "dict"), none, (.dict (.mk []) (nat_lit 0)), (.mk [])⟩
noncomputable def o_7 (_ : Params) : Obj := ⟨(.type "tuple"), none, (.seq (.mk []) (nat_lit 0)), (.mk [])⟩
noncomputable def o_8 (_ : Params) : Obj := ⟨.none, none, (.fields (.mk [])), (.mk [])⟩
noncomputable def o_9 (_ : Params) : Obj := ⟨(.type "code"), none, (.fields (.mk [(.str s_178 (nat_lit 176)), (.str s_178 (nat_lit 177)), (.str s_176 (nat_lit 178)), (.int (.ofNat (nat_lit 1)) (nat_lit 0)), (.int (.ofNat (nat_lit 0)) (nat_lit 0)), (.int (.ofNat (nat_lit 0)) (nat_lit 0)), (.int (.ofNat (nat_lit 0)) (nat_lit 0)), (.int (.ofNat (nat_lit 0)) (nat_lit 0)), (.ref (nat_lit 7)), (.bool false), (.int (.ofNat (nat_lit 175)) (nat_lit 0)), (.ref (nat_lit 8)), .none, .none, .none, .none, (.int (.ofNat (nat_lit 179)) (nat_lit 0)), (.int (.ofNat (nat_lit 1)) (nat_lit 0)), (.str s_176 (nat_lit 180))])), (.mk [])⟩
noncomputable def o_10 (_ : Params) : Obj := ⟨(.type "frame"), none, .plain, (.mk [(some (.ref (nat_lit 9))), (some (.ref (nat_lit 3))), (some (.ref (nat_lit 3))), none, (some (.str s_160 (nat_lit 164))), none, (some (.ref (nat_lit 0)))])⟩
noncomputable def o_11 (P : Params) : Obj := ⟨(.type "dict"), none, (.dict (.mk [⟨(PyData.keyHash P s_0), (.str s_0 (nat_lit 247)), (.str s_161 (nat_lit 246))⟩, ⟨(PyData.keyHash P s_2), (.str s_2 (nat_lit 248)), .none⟩, ⟨(PyData.keyHash P s_3), (.str s_3 (nat_lit 250)), (.str s_179 (nat_lit 249))⟩, ⟨(PyData.keyHash P s_4), (.str s_4 (nat_lit 251)), (.ref (nat_lit 14))⟩, ⟨(PyData.keyHash P s_5), (.str s_5 (nat_lit 252)), (.ref (nat_lit 26))⟩, ⟨(PyData.keyHash P s_16), (.str s_16 (nat_lit 253)), (.builtin "_sre.compile")⟩, ⟨(PyData.keyHash P s_180), (.str s_180 (nat_lit 254)), (.builtin "_sre.template")⟩, ⟨(PyData.keyHash P s_181), (.str s_181 (nat_lit 255)), (.builtin "_sre.getcodesize")⟩, ⟨(PyData.keyHash P s_182), (.str s_182 (nat_lit 256)), (.builtin "_sre.ascii_iscased")⟩, ⟨(PyData.keyHash P s_183), (.str s_183 (nat_lit 257)), (.builtin "_sre.unicode_iscased")⟩, ⟨(PyData.keyHash P s_184), (.str s_184 (nat_lit 258)), (.builtin "_sre.ascii_tolower")⟩, ⟨(PyData.keyHash P s_185), (.str s_185 (nat_lit 259)), (.builtin "_sre.unicode_tolower")⟩, ⟨(PyData.keyHash P s_186), (.str s_186 (nat_lit 261)), (.int (.ofNat (nat_lit 20230612)) (nat_lit 260))⟩, ⟨(PyData.keyHash P s_187), (.str s_187 (nat_lit 263)), (.int (.ofNat (nat_lit 4)) (nat_lit 262))⟩, ⟨(PyData.keyHash P s_188), (.str s_188 (nat_lit 265)), (.int (.ofNat (nat_lit 4294967295)) (nat_lit 264))⟩, ⟨(PyData.keyHash P s_189), (.str s_189 (nat_lit 267)), (.int (.ofNat (nat_lit 1073741823)) (nat_lit 266))⟩, ⟨(PyData.keyHash P s_156), (.str s_156 (nat_lit 269)), (.str s_190 (nat_lit 268))⟩]) (nat_lit 17)), (.mk [])⟩
noncomputable def o_12 (_ : Params) : Obj := ⟨(.type "module"), (some (nat_lit 11)), .plain, (.mk [])⟩
noncomputable def o_13 (P : Params) : Obj := ⟨(.type "dict"), none, (.dict (.mk [⟨(PyData.keyHash P s_191), (.str s_191 (nat_lit 189)), (.str s_192 (nat_lit 186))⟩, ⟨(PyData.keyHash P s_193), (.str s_193 (nat_lit 190)), (.int (.ofNat (nat_lit 971)) (nat_lit 187))⟩, ⟨(PyData.keyHash P s_2), (.str s_2 (nat_lit 191)), (.builtin "_frozen_importlib.BuiltinImporter.__doc__:str#opaque")⟩, ⟨(PyData.keyHash P s_194), (.str s_194 (nat_lit 192)), (.str s_195 (nat_lit 188))⟩, ⟨(PyData.keyHash P s_196), (.str s_196 (nat_lit 193)), (.builtin "_frozen_importlib.BuiltinImporter.find_spec#opaque")⟩, ⟨(PyData.keyHash P s_197), (.str s_197 (nat_lit 194)), (.builtin "_frozen_importlib.BuiltinImporter.create_module#opaque")⟩, ⟨(PyData.keyHash P s_198), (.str s_198 (nat_lit 195)), (.builtin "_frozen_importlib.BuiltinImporter.exec_module#opaque")⟩, ⟨(PyData.keyHash P s_199), (.str s_199 (nat_lit 196)), (.builtin "_frozen_importlib.BuiltinImporter.get_code#opaque")⟩, ⟨(PyData.keyHash P s_200), (.str s_200 (nat_lit 197)), (.builtin "_frozen_importlib.BuiltinImporter.get_source#opaque")⟩, ⟨(PyData.keyHash P s_201), (.str s_201 (nat_lit 198)), (.builtin "_frozen_importlib.BuiltinImporter.is_package#opaque")⟩, ⟨(PyData.keyHash P s_202), (.str s_202 (nat_lit 199)), (.builtin "_frozen_importlib.BuiltinImporter.load_module#opaque")⟩, ⟨(PyData.keyHash P s_203), (.str s_203 (nat_lit 200)), (.ref (nat_lit 15))⟩, ⟨(PyData.keyHash P s_204), (.str s_204 (nat_lit 202)), (.ref (nat_lit 16))⟩, ⟨(PyData.keyHash P s_205), (.str s_205 (nat_lit 204)), (.ref (nat_lit 17))⟩]) (nat_lit 14)), (.mk [])⟩
noncomputable def o_14 (_ : Params) : Obj := ⟨(.type "type"), none, (.cls ⟨s_206, [(.type "object")], [(.ref (nat_lit 14)), (.type "object")], (nat_lit 13), s_206, true, [], [], false, none, false⟩), (.mk [])⟩
noncomputable def o_15 (_ : Params) : Obj := ⟨(.type "getset_descriptor"), none, (.fields (.mk [(.str s_204 (nat_lit 201)), (.ref (nat_lit 14)), (.builtin "function.__dict__"), (.builtin "function.__dict__#set")])), (.mk [])⟩
noncomputable def o_16 (_ : Params) : Obj := ⟨(.type "getset_descriptor"), none, (.fields (.mk [(.str s_205 (nat_lit 203)), (.ref (nat_lit 14)), (.builtin "ExceptionGroup.__weakref__"), .none])), (.mk [])⟩
noncomputable def o_17 (_ : Params) : Obj := ⟨.none, none, (.seq (.mk [(.int (.ofNat (nat_lit 13)) (nat_lit 0)), (.str s_207 (nat_lit 0)), (.bool true), (.bool true), (.str s_179 (nat_lit 205)), (.int (.ofNat (nat_lit 21)) (nat_lit 0)), (.str s_208 (nat_lit 0)), (.bool true), (.bool true), (.str s_179 (nat_lit 242))]) (nat_lit 1)), (.mk [])⟩
noncomputable def o_18 (_ : Params) : Obj := ⟨(.type "list"), none, (.seq (.mk []) (nat_lit 0)), (.mk [])⟩
noncomputable def o_19 (P : Params) : Obj := ⟨(.type "dict"), none, (.dict (.mk [⟨(PyData.keyHash P s_209), (.str s_209 (nat_lit 208)), (.str s_161 (nat_lit 207))⟩, ⟨(PyData.keyHash P s_210), (.str s_210 (nat_lit 209)), (.ref (nat_lit 14))⟩, ⟨(PyData.keyHash P s_211), (.str s_211 (nat_lit 210)), (.str s_195 (nat_lit 184))⟩, ⟨(PyData.keyHash P s_212), (.str s_212 (nat_lit 211)), .none⟩, ⟨(PyData.keyHash P s_213), (.str s_213 (nat_lit 212)), .none⟩, ⟨(PyData.keyHash P s_214), (.str s_214 (nat_lit 213)), (.ref (nat_lit 19))⟩, ⟨(PyData.keyHash P s_215), (.str s_215 (nat_lit 214)), (.bool false)⟩, ⟨(PyData.keyHash P s_216), (.str s_216 (nat_lit 215)), .none⟩, ⟨(PyData.keyHash P s_217), (.str s_217 (nat_lit 243)), (.bool false)⟩]) (nat_lit 9)), (.mk [])⟩
noncomputable def o_20 (P : Params) : Obj := ⟨(.type "dict"), none, (.dict (.mk [⟨(PyData.keyHash P s_191), (.str s_191 (nat_lit 227)), (.str s_192 (nat_lit 217))⟩, ⟨(PyData.keyHash P s_193), (.str s_193 (nat_lit 228)), (.int (.ofNat (nat_lit 562)) (nat_lit 218))⟩, ⟨(PyData.keyHash P s_2), (.str s_2 (nat_lit 229)), (.builtin "_frozen_importlib.ModuleSpec.__doc__:str#opaque")⟩, ⟨(PyData.keyHash P s_218), (.str s_218 (nat_lit 230)), (.builtin "_frozen_importlib.ModuleSpec.__init__#opaque")⟩, ⟨(PyData.keyHash P s_219), (.str s_219 (nat_lit 231)), (.builtin "_frozen_importlib.ModuleSpec.__repr__#opaque")⟩, ⟨(PyData.keyHash P s_220), (.str s_220 (nat_lit 232)), (.builtin "_frozen_importlib.ModuleSpec.__eq__#opaque")⟩, ⟨(PyData.keyHash P s_221), (.str s_221 (nat_lit 233)), (.builtin "_frozen_importlib.ModuleSpec.cached#opaque")⟩, ⟨(PyData.keyHash P s_222), (.str s_222 (nat_lit 234)), (.builtin "_frozen_importlib.ModuleSpec.parent#opaque")⟩, ⟨(PyData.keyHash P s_223), (.str s_223 (nat_lit 235)), (.builtin "_frozen_importlib.ModuleSpec.has_location#opaque")⟩, ⟨(PyData.keyHash P s_203), (.str s_203 (nat_lit 236)), (.ref (nat_lit 23))⟩, ⟨(PyData.keyHash P s_204), (.str s_204 (nat_lit 238)), (.ref (nat_lit 24))⟩, ⟨(PyData.keyHash P s_205), (.str s_205 (nat_lit 240)), (.ref (nat_lit 25))⟩, ⟨(PyData.keyHash P s_224), (.str s_224 (nat_lit 241)), .none⟩]) (nat_lit 13)), (.mk [])⟩
noncomputable def o_21 (_ : Params) : Obj := ⟨(.type "type"), none, (.cls ⟨s_225, [(.type "object")], [(.ref (nat_lit 22)), (.type "object")], (nat_lit 21), s_225, true, [], [], false, none, false⟩), (.mk [])⟩
noncomputable def o_22 (_ : Params) : Obj := ⟨(.type "tuple"), none, (.seq (.mk [(.str s_216 (nat_lit 219)), (.str s_215 (nat_lit 220)), (.str s_214 (nat_lit 221)), (.str s_210 (nat_lit 222)), (.str s_212 (nat_lit 223)), (.str s_209 (nat_lit 224)), (.str s_211 (nat_lit 225)), (.str s_213 (nat_lit 226))]) (nat_lit 0)), (.mk [])⟩
noncomputable def o_23 (_ : Params) : Obj := ⟨(.type "getset_descriptor"), none, (.fields (.mk [(.str s_204 (nat_lit 237)), (.ref (nat_lit 22)), (.builtin "function.__dict__"), (.builtin "function.__dict__#set")])), (.mk [])⟩
noncomputable def o_24 (_ : Params) : Obj := ⟨(.type "getset_descriptor"), none, (.fields (.mk [(.str s_205 (nat_lit 239)), (.ref (nat_lit 22)), (.builtin "ExceptionGroup.__weakref__"), .none])), (.mk [])⟩
noncomputable def o_25 (_ : Params) : Obj := ⟨(.ref (nat_lit 22)), (some (nat_lit 20)), .plain, (.mk [])⟩
noncomputable def o_26 (_ : Params) : Obj := ⟨.none, none, (.seq (.mk [(.int (.ofNat (nat_lit 11)) (nat_lit 0)), (.str s_226 (nat_lit 0)), (.bool true), (.bool false), (.str s_161 (nat_lit 271))]) (nat_lit 0)), (.mk [])⟩
noncomputable def o_27 (P : Params) : Obj := ⟨(.type "dict"), none, (.dict (.mk [⟨(PyData.keyHash P s_0), (.str s_0 (nat_lit 247)), (.str s_161 (nat_lit 246))⟩, ⟨(PyData.keyHash P s_2), (.str s_2 (nat_lit 248)), .none⟩, ⟨(PyData.keyHash P s_3), (.str s_3 (nat_lit 250)), (.str s_179 (nat_lit 249))⟩, ⟨(PyData.keyHash P s_4), (.str s_4 (nat_lit 251)), (.builtin "off-the-table:_sre.__loader__:shared#opaque")⟩, ⟨(PyData.keyHash P s_5), (.str s_5 (nat_lit 252)), (.builtin "off-the-table:_sre.__spec__:shared#opaque")⟩, ⟨(PyData.keyHash P s_16), (.str s_16 (nat_lit 253)), (.builtin "_sre.compile")⟩, ⟨(PyData.keyHash P s_180), (.str s_180 (nat_lit 254)), (.builtin "off-the-table:_sre.template:shared#opaque")⟩, ⟨(PyData.keyHash P s_181), (.str s_181 (nat_lit 255)), (.builtin "off-the-table:_sre.getcodesize:shared#opaque")⟩, ⟨(PyData.keyHash P s_182), (.str s_182 (nat_lit 256)), (.builtin "off-the-table:_sre.ascii_iscased:shared#opaque")⟩, ⟨(PyData.keyHash P s_183), (.str s_183 (nat_lit 257)), (.builtin "off-the-table:_sre.unicode_iscased:shared#opaque")⟩, ⟨(PyData.keyHash P s_184), (.str s_184 (nat_lit 258)), (.builtin "off-the-table:_sre.ascii_tolower:shared#opaque")⟩, ⟨(PyData.keyHash P s_185), (.str s_185 (nat_lit 259)), (.builtin "off-the-table:_sre.unicode_tolower:shared#opaque")⟩, ⟨(PyData.keyHash P s_186), (.str s_186 (nat_lit 261)), (.int (.ofNat (nat_lit 20230612)) (nat_lit 260))⟩, ⟨(PyData.keyHash P s_187), (.str s_187 (nat_lit 263)), (.int (.ofNat (nat_lit 4)) (nat_lit 262))⟩, ⟨(PyData.keyHash P s_188), (.str s_188 (nat_lit 265)), (.int (.ofNat (nat_lit 4294967295)) (nat_lit 264))⟩, ⟨(PyData.keyHash P s_189), (.str s_189 (nat_lit 267)), (.int (.ofNat (nat_lit 1073741823)) (nat_lit 266))⟩, ⟨(PyData.keyHash P s_156), (.str s_156 (nat_lit 269)), (.str s_190 (nat_lit 268))⟩]) (nat_lit 17)), (.mk [])⟩
noncomputable def o_28 (_ : Params) : Obj := ⟨(.type "code"), none, (.fields (.mk [(.str s_178 (nat_lit 277)), (.str s_178 (nat_lit 278)), (.str s_176 (nat_lit 279)), (.int (.ofNat (nat_lit 1)) (nat_lit 0)), (.int (.ofNat (nat_lit 0)) (nat_lit 0)), (.int (.ofNat (nat_lit 0)) (nat_lit 0)), (.int (.ofNat (nat_lit 0)) (nat_lit 0)), (.int (.ofNat (nat_lit 0)) (nat_lit 0)), (.ref (nat_lit 28)), (.bool false), (.int (.ofNat (nat_lit 276)) (nat_lit 0)), (.ref (nat_lit 29)), .none, .none, .none, .none, (.int (.ofNat (nat_lit 280)) (nat_lit 0)), (.int (.ofNat (nat_lit 1)) (nat_lit 0)), (.str s_176 (nat_lit 281))])), (.mk [])⟩
noncomputable def o_29 (_ : Params) : Obj := ⟨(.type "frame"), none, .plain, (.mk [(some (.ref (nat_lit 30))), (some (.ref (nat_lit 3))), (some (.ref (nat_lit 3))), none, (some (.str s_160 (nat_lit 164))), none, (some (.ref (nat_lit 0)))])⟩
noncomputable def o_30 (P : Params) : Obj := ⟨(.type "dict"), none, (.dict (.mk [⟨(PyData.keyHash P s_0), (.str s_0 (nat_lit 165)), (.str s_227 (nat_lit 282))⟩, ⟨(PyData.keyHash P s_2), (.str s_2 (nat_lit 166)), .none⟩, ⟨(PyData.keyHash P s_3), (.str s_3 (nat_lit 167)), .none⟩, ⟨(PyData.keyHash P s_4), (.str s_4 (nat_lit 168)), (.builtin "__main__.__loader__#opaque")⟩, ⟨(PyData.keyHash P s_5), (.str s_5 (nat_lit 169)), .none⟩, ⟨(PyData.keyHash P s_173), (.str s_173 (nat_lit 170)), (.ref (nat_lit 6))⟩, ⟨(PyData.keyHash P s_174), (.str s_174 (nat_lit 171)), (.ref (nat_lit 4))⟩, ⟨(PyData.keyHash P s_175), (.str s_175 (nat_lit 173)), (.str s_176 (nat_lit 172))⟩, ⟨(PyData.keyHash P s_177), (.str s_177 (nat_lit 174)), .none⟩, ⟨(PyData.keyHash P s_161), (.str s_161 (nat_lit 275)), (.ref (nat_lit 12))⟩, ⟨(PyData.keyHash P s_228), (.str s_228 (nat_lit 291)), (.ref (nat_lit 38))⟩, ⟨(PyData.keyHash P s_229), (.str s_229 (nat_lit 300)), (.ref (nat_lit 45))⟩, ⟨(PyData.keyHash P s_230), (.str s_230 (nat_lit 309)), (.ref (nat_lit 52))⟩, ⟨(PyData.keyHash P s_231), (.str s_231 (nat_lit 317)), (.ref (nat_lit 59))⟩, ⟨(PyData.keyHash P s_232), (.str s_232 (nat_lit 326)), (.ref (nat_lit 66))⟩, ⟨(PyData.keyHash P s_233), (.str s_233 (nat_lit 338)), (.ref (nat_lit 73))⟩, ⟨(PyData.keyHash P s_234), (.str s_234 (nat_lit 351)), (.ref (nat_lit 80))⟩, ⟨(PyData.keyHash P s_235), (.str s_235 (nat_lit 386)), (.ref (nat_lit 85))⟩]) (nat_lit 18)), (.mk [])⟩
noncomputable def o_31 (_ : Params) : Obj := ⟨.none, none, (.fields (.mk [(.int (.ofNat (nat_lit 3)) (nat_lit 0)), (.int (.ofNat (nat_lit 0)) (nat_lit 0)), (.ref (nat_lit 37)), (.int (.ofNat (nat_lit 6)) (nat_lit 0)), (.int (.ofNat (nat_lit 0)) (nat_lit 0)), (.ref (nat_lit 44)), (.int (.ofNat (nat_lit 14)) (nat_lit 0)), (.int (.ofNat (nat_lit 0)) (nat_lit 0)), (.ref (nat_lit 51)), (.int (.ofNat (nat_lit 19)) (nat_lit 0)), (.int (.ofNat (nat_lit 0)) (nat_lit 0)), (.ref (nat_lit 58)), (.int (.ofNat (nat_lit 24)) (nat_lit 0)), (.int (.ofNat (nat_lit 0)) (nat_lit 0)), (.ref (nat_lit 65)), (.int (.ofNat (nat_lit 28)) (nat_lit 0)), (.int (.ofNat (nat_lit 0)) (nat_lit 0)), (.ref (nat_lit 72)), (.int (.ofNat (nat_lit 39)) (nat_lit 0)), (.int (.ofNat (nat_lit 0)) (nat_lit 0)), (.ref (nat_lit 79))])), (.mk [])⟩
noncomputable def o_32 (_ : Params) : Obj := ⟨(.type "tuple"), none, (.seq (.mk [(.str s_236 (nat_lit 287)), (.str s_237 (nat_lit 288))]) (nat_lit 0)), (.mk [])⟩
noncomputable def o_33 (_ : Params) : Obj := ⟨.none, none, (.func ⟨s_228, s_228, (fA (qs 1)), .stmts (fB (qs 1)), (fC (qs 1)), (nat_lit 0), [], .none, .none, .none, .none, none, .none, .none, (nat_lit 0)⟩), (.mk [])⟩
noncomputable def o_34 (_ : Params) : Obj := ⟨(.type "code"), none, (.fields (.mk [(.str s_228 (nat_lit 284)), (.str s_228 (nat_lit 285)), (.str s_176 (nat_lit 286)), (.int (.ofNat (nat_lit 3)) (nat_lit 0)), (.int (.ofNat (nat_lit 2)) (nat_lit 0)), (.int (.ofNat (nat_lit 0)) (nat_lit 0)), (.int (.ofNat (nat_lit 0)) (nat_lit 0)), (.int (.ofNat (nat_lit 3)) (nat_lit 0)), (.ref (nat_lit 32)), (.bool true), (.int (.ofNat (nat_lit 276)) (nat_lit 0)), (.ref (nat_lit 33)), .none, (.ref (nat_lit 34)), (.ref (nat_lit 35)), (.ref (nat_lit 36)), (.int (.ofNat (nat_lit 289)) (nat_lit 0)), (.int (.ofNat (nat_lit 3)) (nat_lit 0)), (.str s_176 (nat_lit 290))])), (.mk [])⟩
noncomputable def o_35 (_ : Params) : Obj := ⟨(.type "function"), none, (.func ⟨s_228, s_228, (fA (qs 1)), .stmts (fB (qs 1)), (fC (qs 1)), (nat_lit 3), [], .none, .none, .none, (.str s_227 (nat_lit 282)), none, (.ref (nat_lit 37)), .none, (nat_lit 0)⟩), (.mk [])⟩
noncomputable def o_36 (_ : Params) : Obj := ⟨(.type "tuple"), none, (.seq (.mk [(.str s_236 (nat_lit 295)), (.str s_238 (nat_lit 296)), (.str s_239 (nat_lit 297))]) (nat_lit 0)), (.mk [])⟩
noncomputable def o_37 (_ : Params) : Obj := ⟨.none, none, (.func ⟨s_229, s_229, (fA (qs 2)), .stmts (fB (qs 2)), (fC (qs 2)), (nat_lit 0), [], .none, .none, .none, .none, none, .none, .none, (nat_lit 0)⟩), (.mk [])⟩
noncomputable def o_38 (_ : Params) : Obj := ⟨(.type "code"), none, (.fields (.mk [(.str s_229 (nat_lit 292)), (.str s_229 (nat_lit 293)), (.str s_176 (nat_lit 294)), (.int (.ofNat (nat_lit 6)) (nat_lit 0)), (.int (.ofNat (nat_lit 1)) (nat_lit 0)), (.int (.ofNat (nat_lit 0)) (nat_lit 0)), (.int (.ofNat (nat_lit 0)) (nat_lit 0)), (.int (.ofNat (nat_lit 3)) (nat_lit 0)), (.ref (nat_lit 39)), (.bool true), (.int (.ofNat (nat_lit 276)) (nat_lit 0)), (.ref (nat_lit 40)), .none, (.ref (nat_lit 41)), (.ref (nat_lit 42)), (.ref (nat_lit 43)), (.int (.ofNat (nat_lit 298)) (nat_lit 0)), (.int (.ofNat (nat_lit 6)) (nat_lit 0)), (.str s_176 (nat_lit 299))])), (.mk [])⟩
noncomputable def o_39 (_ : Params) : Obj := ⟨(.type "function"), none, (.func ⟨s_229, s_229, (fA (qs 2)), .stmts (fB (qs 2)), (fC (qs 2)), (nat_lit 3), [], .none, .none, .none, (.str s_227 (nat_lit 282)), none, (.ref (nat_lit 44)), .none, (nat_lit 0)⟩), (.mk [])⟩
noncomputable def o_40 (_ : Params) : Obj := ⟨(.type "tuple"), none, (.seq (.mk [(.str s_236 (nat_lit 304)), (.str s_237 (nat_lit 305)), (.str s_239 (nat_lit 306))]) (nat_lit 0)), (.mk [])⟩
noncomputable def o_41 (_ : Params) : Obj := ⟨.none, none, (.func ⟨s_230, s_230, (fA (qs 3)), .stmts (fB (qs 3)), (fC (qs 3)), (nat_lit 0), [], .none, .none, .none, .none, none, .none, .none, (nat_lit 0)⟩), (.mk [])⟩
noncomputable def o_42 (_ : Params) : Obj := ⟨(.type "code"), none, (.fields (.mk [(.str s_230 (nat_lit 301)), (.str s_230 (nat_lit 302)), (.str s_176 (nat_lit 303)), (.int (.ofNat (nat_lit 14)) (nat_lit 0)), (.int (.ofNat (nat_lit 2)) (nat_lit 0)), (.int (.ofNat (nat_lit 0)) (nat_lit 0)), (.int (.ofNat (nat_lit 0)) (nat_lit 0)), (.int (.ofNat (nat_lit 3)) (nat_lit 0)), (.ref (nat_lit 46)), (.bool true), (.int (.ofNat (nat_lit 276)) (nat_lit 0)), (.ref (nat_lit 47)), .none, (.ref (nat_lit 48)), (.ref (nat_lit 49)), (.ref (nat_lit 50)), (.int (.ofNat (nat_lit 307)) (nat_lit 0)), (.int (.ofNat (nat_lit 14)) (nat_lit 0)), (.str s_176 (nat_lit 308))])), (.mk [])⟩
noncomputable def o_43 (_ : Params) : Obj := ⟨(.type "function"), none, (.func ⟨s_230, s_230, (fA (qs 3)), .stmts (fB (qs 3)), (fC (qs 3)), (nat_lit 3), [], .none, .none, .none, (.str s_227 (nat_lit 282)), none, (.ref (nat_lit 51)), .none, (nat_lit 0)⟩), (.mk [])⟩
noncomputable def o_44 (_ : Params) : Obj := ⟨(.type "tuple"), none, (.seq (.mk [(.str s_236 (nat_lit 313)), (.str s_237 (nat_lit 314))]) (nat_lit 0)), (.mk [])⟩
noncomputable def o_45 (_ : Params) : Obj := ⟨.none, none, (.func ⟨s_231, s_231, (fA (qs 4)), .stmts (fB (qs 4)), (fC (qs 4)), (nat_lit 0), [], .none, .none, .none, .none, none, .none, .none, (nat_lit 0)⟩), (.mk [])⟩
noncomputable def o_46 (_ : Params) : Obj := ⟨(.type "code"), none, (.fields (.mk [(.str s_231 (nat_lit 310)), (.str s_231 (nat_lit 311)), (.str s_176 (nat_lit 312)), (.int (.ofNat (nat_lit 19)) (nat_lit 0)), (.int (.ofNat (nat_lit 2)) (nat_lit 0)), (.int (.ofNat (nat_lit 0)) (nat_lit 0)), (.int (.ofNat (nat_lit 0)) (nat_lit 0)), (.int (.ofNat (nat_lit 3)) (nat_lit 0)), (.ref (nat_lit 53)), (.bool true), (.int (.ofNat (nat_lit 276)) (nat_lit 0)), (.ref (nat_lit 54)), .none, (.ref (nat_lit 55)), (.ref (nat_lit 56)), (.ref (nat_lit 57)), (.int (.ofNat (nat_lit 315)) (nat_lit 0)), (.int (.ofNat (nat_lit 19)) (nat_lit 0)), (.str s_176 (nat_lit 316))])), (.mk [])⟩
noncomputable def o_47 (_ : Params) : Obj := ⟨(.type "function"), none, (.func ⟨s_231, s_231, (fA (qs 4)), .stmts (fB (qs 4)), (fC (qs 4)), (nat_lit 3), [], .none, .none, .none, (.str s_227 (nat_lit 282)), none, (.ref (nat_lit 58)), .none, (nat_lit 0)⟩), (.mk [])⟩
noncomputable def o_48 (_ : Params) : Obj := ⟨(.type "tuple"), none, (.seq (.mk [(.str s_240 (nat_lit 321)), (.str s_241 (nat_lit 322)), (.str s_242 (nat_lit 323))]) (nat_lit 0)), (.mk [])⟩
noncomputable def o_49 (_ : Params) : Obj := ⟨.none, none, (.func ⟨s_232, s_232, (fA (qs 5)), .stmts (fB (qs 5)), (fC (qs 5)), (nat_lit 0), [], .none, .none, .none, .none, none, .none, .none, (nat_lit 0)⟩), (.mk [])⟩
noncomputable def o_50 (_ : Params) : Obj := ⟨(.type "code"), none, (.fields (.mk [(.str s_232 (nat_lit 318)), (.str s_232 (nat_lit 319)), (.str s_176 (nat_lit 320)), (.int (.ofNat (nat_lit 24)) (nat_lit 0)), (.int (.ofNat (nat_lit 1)) (nat_lit 0)), (.int (.ofNat (nat_lit 0)) (nat_lit 0)), (.int (.ofNat (nat_lit 0)) (nat_lit 0)), (.int (.ofNat (nat_lit 3)) (nat_lit 0)), (.ref (nat_lit 60)), (.bool true), (.int (.ofNat (nat_lit 276)) (nat_lit 0)), (.ref (nat_lit 61)), .none, (.ref (nat_lit 62)), (.ref (nat_lit 63)), (.ref (nat_lit 64)), (.int (.ofNat (nat_lit 324)) (nat_lit 0)), (.int (.ofNat (nat_lit 24)) (nat_lit 0)), (.str s_176 (nat_lit 325))])), (.mk [])⟩
noncomputable def o_51 (_ : Params) : Obj := ⟨(.type "function"), none, (.func ⟨s_232, s_232, (fA (qs 5)), .stmts (fB (qs 5)), (fC (qs 5)), (nat_lit 3), [], .none, .none, .none, (.str s_227 (nat_lit 282)), none, (.ref (nat_lit 65)), .none, (nat_lit 0)⟩), (.mk [])⟩
noncomputable def o_52 (_ : Params) : Obj := ⟨(.type "tuple"), none, (.seq (.mk [(.str s_236 (nat_lit 330)), (.str s_243 (nat_lit 331)), (.str s_244 (nat_lit 332)), (.str s_245 (nat_lit 333)), (.str s_246 (nat_lit 334)), (.str s_222 (nat_lit 335))]) (nat_lit 0)), (.mk [])⟩
noncomputable def o_53 (_ : Params) : Obj := ⟨.none, none, (.func ⟨s_233, s_233, (fA (qs 6)), .stmts (fB (qs 6)), (fC (qs 6)), (nat_lit 0), [], .none, .none, .none, .none, none, .none, .none, (nat_lit 0)⟩), (.mk [])⟩
noncomputable def o_54 (_ : Params) : Obj := ⟨(.type "code"), none, (.fields (.mk [(.str s_233 (nat_lit 327)), (.str s_233 (nat_lit 328)), (.str s_176 (nat_lit 329)), (.int (.ofNat (nat_lit 28)) (nat_lit 0)), (.int (.ofNat (nat_lit 3)) (nat_lit 0)), (.int (.ofNat (nat_lit 0)) (nat_lit 0)), (.int (.ofNat (nat_lit 0)) (nat_lit 0)), (.int (.ofNat (nat_lit 3)) (nat_lit 0)), (.ref (nat_lit 67)), (.bool true), (.int (.ofNat (nat_lit 276)) (nat_lit 0)), (.ref (nat_lit 68)), .none, (.ref (nat_lit 69)), (.ref (nat_lit 70)), (.ref (nat_lit 71)), (.int (.ofNat (nat_lit 336)) (nat_lit 0)), (.int (.ofNat (nat_lit 28)) (nat_lit 0)), (.str s_176 (nat_lit 337))])), (.mk [])⟩
noncomputable def o_55 (_ : Params) : Obj := ⟨(.type "function"), none, (.func ⟨s_233, s_233, (fA (qs 6)), .stmts (fB (qs 6)), (fC (qs 6)), (nat_lit 3), [], .none, .none, .none, (.str s_227 (nat_lit 282)), none, (.ref (nat_lit 72)), .none, (nat_lit 0)⟩), (.mk [])⟩
noncomputable def o_56 (_ : Params) : Obj := ⟨(.type "tuple"), none, (.seq (.mk [(.str s_236 (nat_lit 342)), (.str s_244 (nat_lit 343)), (.str s_247 (nat_lit 344)), (.str s_243 (nat_lit 345)), (.str s_245 (nat_lit 346)), (.str s_248 (nat_lit 347)), (.str s_249 (nat_lit 348))]) (nat_lit 0)), (.mk [])⟩
noncomputable def o_57 (_ : Params) : Obj := ⟨.none, none, (.func ⟨s_234, s_234, (fA (qs 7)), .stmts (fB (qs 7)), (fC (qs 7)), (nat_lit 0), [], .none, .none, .none, .none, none, .none, .none, (nat_lit 0)⟩), (.mk [])⟩
noncomputable def o_58 (_ : Params) : Obj := ⟨(.type "code"), none, (.fields (.mk [(.str s_234 (nat_lit 339)), (.str s_234 (nat_lit 340)), (.str s_176 (nat_lit 341)), (.int (.ofNat (nat_lit 39)) (nat_lit 0)), (.int (.ofNat (nat_lit 2)) (nat_lit 0)), (.int (.ofNat (nat_lit 0)) (nat_lit 0)), (.int (.ofNat (nat_lit 0)) (nat_lit 0)), (.int (.ofNat (nat_lit 3)) (nat_lit 0)), (.ref (nat_lit 74)), (.bool true), (.int (.ofNat (nat_lit 276)) (nat_lit 0)), (.ref (nat_lit 75)), .none, (.ref (nat_lit 76)), (.ref (nat_lit 77)), (.ref (nat_lit 78)), (.int (.ofNat (nat_lit 349)) (nat_lit 0)), (.int (.ofNat (nat_lit 39)) (nat_lit 0)), (.str s_176 (nat_lit 350))])), (.mk [])⟩
noncomputable def o_59 (_ : Params) : Obj := ⟨(.type "function"), none, (.func ⟨s_234, s_234, (fA (qs 7)), .stmts (fB (qs 7)), (fC (qs 7)), (nat_lit 3), [], .none, .none, .none, (.str s_227 (nat_lit 282)), none, (.ref (nat_lit 79)), .none, (nat_lit 0)⟩), (.mk [])⟩
noncomputable def o_60 (_ : Params) : Obj := ⟨(.type "list"), none, (.seq (.mk [(.int (.ofNat (nat_lit 14)) (nat_lit 355)), (.int (.ofNat (nat_lit 8)) (nat_lit 356)), (.int (.ofNat (nat_lit 1)) (nat_lit 357)), (.int (.ofNat (nat_lit 3)) (nat_lit 358)), (.int (.ofNat (nat_lit 3)) (nat_lit 359)), (.int (.ofNat (nat_lit 1)) (nat_lit 360)), (.int (.ofNat (nat_lit 1)) (nat_lit 361)), (.int (.ofNat (nat_lit 61)) (nat_lit 362)), (.int (.ofNat (nat_lit 0)) (nat_lit 363)), (.int (.ofNat (nat_lit 16)) (nat_lit 364)), (.int (.ofNat (nat_lit 61)) (nat_lit 365)), (.int (.ofNat (nat_lit 24)) (nat_lit 366)), (.int (.ofNat (nat_lit 16)) (nat_lit 367)), (.int (.ofNat (nat_lit 2)) (nat_lit 368)), (.int (.ofNat (nat_lit 2)) (nat_lit 369)), (.int (.ofNat (nat_lit 13)) (nat_lit 370)), (.int (.ofNat (nat_lit 11)) (nat_lit 371)), (.int (.ofNat (nat_lit 9)) (nat_lit 372)), (.int (.ofNat (nat_lit 0)) (nat_lit 373)), (.int (.ofNat (nat_lit 67043328)) (nat_lit 374)), (.int (.ofNat (nat_lit 126)) (nat_lit 375)), (.int (.ofNat (nat_lit 126)) (nat_lit 376)), (.int (.ofNat (nat_lit 0)) (nat_lit 377)), (.int (.ofNat (nat_lit 0)) (nat_lit 378)), (.int (.ofNat (nat_lit 0)) (nat_lit 379)), (.int (.ofNat (nat_lit 0)) (nat_lit 380)), (.int (.ofNat (nat_lit 0)) (nat_lit 381)), (.int (.ofNat (nat_lit 1)) (nat_lit 382)), (.int (.ofNat (nat_lit 1)) (nat_lit 383))]) (nat_lit 0)), (.mk [])⟩
noncomputable def o_61 (_ : Params) : Obj := ⟨(.type "tuple"), none, (.seq (.mk [.none]) (nat_lit 0)), (.mk [])⟩
noncomputable def o_62 (_ : Params) : Obj := ⟨(.type "tuple"), none, (.seq (.mk [(.int (.ofNat (nat_lit 14)) (nat_lit 0)), (.int (.ofNat (nat_lit 8)) (nat_lit 0)), (.int (.ofNat (nat_lit 1)) (nat_lit 0)), (.int (.ofNat (nat_lit 3)) (nat_lit 0)), (.int (.ofNat (nat_lit 3)) (nat_lit 0)), (.int (.ofNat (nat_lit 1)) (nat_lit 0)), (.int (.ofNat (nat_lit 1)) (nat_lit 0)), (.int (.ofNat (nat_lit 61)) (nat_lit 0)), (.int (.ofNat (nat_lit 0)) (nat_lit 0)), (.int (.ofNat (nat_lit 16)) (nat_lit 0)), (.int (.ofNat (nat_lit 61)) (nat_lit 0)), (.int (.ofNat (nat_lit 24)) (nat_lit 0)), (.int (.ofNat (nat_lit 16)) (nat_lit 0)), (.int (.ofNat (nat_lit 2)) (nat_lit 0)), (.int (.ofNat (nat_lit 2)) (nat_lit 0)), (.int (.ofNat (nat_lit 13)) (nat_lit 0)), (.int (.ofNat (nat_lit 11)) (nat_lit 0)), (.int (.ofNat (nat_lit 9)) (nat_lit 0)), (.int (.ofNat (nat_lit 0)) (nat_lit 0)), (.int (.ofNat (nat_lit 67043328)) (nat_lit 0)), (.int (.ofNat (nat_lit 126)) (nat_lit 0)), (.int (.ofNat (nat_lit 126)) (nat_lit 0)), (.int (.ofNat (nat_lit 0)) (nat_lit 0)), (.int (.ofNat (nat_lit 0)) (nat_lit 0)), (.int (.ofNat (nat_lit 0)) (nat_lit 0)), (.int (.ofNat (nat_lit 0)) (nat_lit 0)), (.int (.ofNat (nat_lit 0)) (nat_lit 0)), (.int (.ofNat (nat_lit 1)) (nat_lit 0)), (.int (.ofNat (nat_lit 1)) (nat_lit 0))]) (nat_lit 0)), (.mk [])⟩
noncomputable def o_63 (_ : Params) : Obj := ⟨(.type "re.Pattern"), none, (.fields (.mk [(.str s_250 (nat_lit 353)), (.int (.ofNat (nat_lit 256)) (nat_lit 385)), (.int (.ofNat (nat_lit 0)) (nat_lit 0)), .none, .none, (.ref (nat_lit 84)), (.int (.ofNat (nat_lit 0)) (nat_lit 0))])), (.mk [])⟩
noncomputable def o_64 (P : Params) : Obj := ⟨(.type "dict"), none, (.dict (.mk [⟨(PyData.keyHash P s_0), (.str s_0 (nat_lit 165)), (.str s_227 (nat_lit 282))⟩, ⟨(PyData.keyHash P s_2), (.str s_2 (nat_lit 166)), .none⟩, ⟨(PyData.keyHash P s_3), (.str s_3 (nat_lit 167)), .none⟩, ⟨(PyData.keyHash P s_4), (.str s_4 (nat_lit 168)), (.builtin "__main__.__loader__#opaque")⟩, ⟨(PyData.keyHash P s_5), (.str s_5 (nat_lit 169)), .none⟩, ⟨(PyData.keyHash P s_173), (.str s_173 (nat_lit 170)), (.ref (nat_lit 6))⟩, ⟨(PyData.keyHash P s_174), (.str s_174 (nat_lit 171)), (.ref (nat_lit 4))⟩, ⟨(PyData.keyHash P s_175), (.str s_175 (nat_lit 173)), (.str s_176 (nat_lit 172))⟩, ⟨(PyData.keyHash P s_177), (.str s_177 (nat_lit 174)), .none⟩, ⟨(PyData.keyHash P s_161), (.str s_161 (nat_lit 275)), (.ref (nat_lit 12))⟩, ⟨(PyData.keyHash P s_228), (.str s_228 (nat_lit 291)), (.ref (nat_lit 38))⟩, ⟨(PyData.keyHash P s_229), (.str s_229 (nat_lit 300)), (.ref (nat_lit 45))⟩, ⟨(PyData.keyHash P s_230), (.str s_230 (nat_lit 309)), (.ref (nat_lit 52))⟩, ⟨(PyData.keyHash P s_231), (.str s_231 (nat_lit 317)), (.ref (nat_lit 59))⟩, ⟨(PyData.keyHash P s_232), (.str s_232 (nat_lit 326)), (.ref (nat_lit 66))⟩, ⟨(PyData.keyHash P s_233), (.str s_233 (nat_lit 338)), (.ref (nat_lit 73))⟩, ⟨(PyData.keyHash P s_234), (.str s_234 (nat_lit 351)), (.ref (nat_lit 80))⟩, ⟨(PyData.keyHash P s_235), (.str s_235 (nat_lit 386)), (.ref (nat_lit 85))⟩, ⟨(PyData.keyHash P s_251), (.str s_251 (nat_lit 1414)), (.ref (nat_lit 88))⟩]) (nat_lit 19)), (.mk [])⟩
noncomputable def o_65 (_ : Params) : Obj := ⟨(.type "range"), none, (.fields (.mk [(.int (.ofNat (nat_lit 0)) (nat_lit 388)), (.int (.ofNat (nat_lit 256)) (nat_lit 387)), (.int (.ofNat (nat_lit 1)) (nat_lit 389))])), (.mk [])⟩
noncomputable def o_66 (_ : Params) : Obj := ⟨(.type "range_iterator"), none, (.fields (.mk [(.int (.ofNat (nat_lit 256)) (nat_lit 0)), (.int (.ofNat (nat_lit 0)) (nat_lit 0)), (.int (.ofNat (nat_lit 1)) (nat_lit 0))])), (.mk [])⟩
noncomputable def o_67 (_ : Params) : Obj := ⟨(.type "list"), none, (.seq (.mk [(.str s_252 (nat_lit 393)), (.str s_253 (nat_lit 397)), (.str s_254 (nat_lit 401)), (.str s_255 (nat_lit 405)), (.str s_256 (nat_lit 409)), (.str s_257 (nat_lit 413)), (.str s_258 (nat_lit 417)), (.str s_259 (nat_lit 421)), (.str s_260 (nat_lit 425)), (.str s_261 (nat_lit 429)), (.str s_262 (nat_lit 433)), (.str s_263 (nat_lit 437)), (.str s_264 (nat_lit 441)), (.str s_265 (nat_lit 445)), (.str s_266 (nat_lit 449)), (.str s_267 (nat_lit 453)), (.str s_268 (nat_lit 457)), (.str s_269 (nat_lit 461)), (.str s_270 (nat_lit 465)), (.str s_271 (nat_lit 469)), (.str s_272 (nat_lit 473)), (.str s_273 (nat_lit 477)), (.str s_274 (nat_lit 481)), (.str s_275 (nat_lit 485)), (.str s_276 (nat_lit 489)), (.str s_277 (nat_lit 493)), (.str s_278 (nat_lit 497)), (.str s_279 (nat_lit 501)), (.str s_280 (nat_lit 505)), (.str s_281 (nat_lit 509)), (.str s_282 (nat_lit 513)), (.str s_283 (nat_lit 517)), (.str s_284 (nat_lit 521)), (.str s_285 (nat_lit 525)), (.str s_286 (nat_lit 529)), (.str s_287 (nat_lit 533)), (.str s_288 (nat_lit 537)), (.str s_289 (nat_lit 541)), (.str s_290 (nat_lit 545)), (.str s_291 (nat_lit 549)), (.str s_292 (nat_lit 553)), (.str s_293 (nat_lit 557)), (.str s_294 (nat_lit 561)), (.str s_295 (nat_lit 565)), (.str s_296 (nat_lit 569)), (.str s_297 (nat_lit 573)), (.str s_298 (nat_lit 577)), (.str s_299 (nat_lit 581)), (.str s_300 (nat_lit 585)), (.str s_301 (nat_lit 589)), (.str s_302 (nat_lit 593)), (.str s_303 (nat_lit 597)), (.str s_304 (nat_lit 601)), (.str s_305 (nat_lit 605)), (.str s_306 (nat_lit 609)), (.str s_307 (nat_lit 613)), (.str s_308 (nat_lit 617)), (.str s_309 (nat_lit 621)), (.str s_310 (nat_lit 625)), (.str s_311 (nat_lit 629)), (.str s_312 (nat_lit 633)), (.str s_313 (nat_lit 637)), (.str s_314 (nat_lit 641)), (.str s_315 (nat_lit 645)), (.str s_316 (nat_lit 649)), (.str s_317 (nat_lit 653)), (.str s_318 (nat_lit 657)), (.str s_319 (nat_lit 661)), (.str s_320 (nat_lit 665)), (.str s_321 (nat_lit 669)), (.str s_322 (nat_lit 673)), (.str s_323 (nat_lit 677)), (.str s_324 (nat_lit 681)), (.str s_325 (nat_lit 685)), (.str s_326 (nat_lit 689)), (.str s_327 (nat_lit 693)), (.str s_328 (nat_lit 697)), (.str s_329 (nat_lit 701)), (.str s_330 (nat_lit 705)), (.str s_331 (nat_lit 709)), (.str s_332 (nat_lit 713)), (.str s_333 (nat_lit 717)), (.str s_334 (nat_lit 721)), (.str s_335 (nat_lit 725)), (.str s_336 (nat_lit 729)), (.str s_337 (nat_lit 733)), (.str s_338 (nat_lit 737)), (.str s_339 (nat_lit 741)), (.str s_340 (nat_lit 745)), (.str s_341 (nat_lit 749)), (.str s_342 (nat_lit 753)), (.str s_343 (nat_lit 757)), (.str s_344 (nat_lit 761)), (.str s_345 (nat_lit 765)), (.str s_346 (nat_lit 769)), (.str s_347 (nat_lit 773)), (.str s_348 (nat_lit 777)), (.str s_349 (nat_lit 781)), (.str s_350 (nat_lit 785)), (.str s_351 (nat_lit 789)), (.str s_352 (nat_lit 793)), (.str s_353 (nat_lit 797)), (.str s_354 (nat_lit 801)), (.str s_355 (nat_lit 805)), (.str s_356 (nat_lit 809)), (.str s_357 (nat_lit 813)), (.str s_358 (nat_lit 817)), (.str s_359 (nat_lit 821)), (.str s_360 (nat_lit 825)), (.str s_361 (nat_lit 829)), (.str s_362 (nat_lit 833)), (.str s_363 (nat_lit 837)), (.str s_364 (nat_lit 841)), (.str s_365 (nat_lit 845)), (.str s_366 (nat_lit 849)), (.str s_367 (nat_lit 853)), (.str s_368 (nat_lit 857)), (.str s_369 (nat_lit 861)), (.str s_370 (nat_lit 865)), (.str s_371 (nat_lit 869)), (.str s_372 (nat_lit 873)), (.str s_373 (nat_lit 877)), (.str s_374 (nat_lit 881)), (.str s_375 (nat_lit 885)), (.str s_376 (nat_lit 889)), (.str s_377 (nat_lit 893)), (.str s_378 (nat_lit 897)), (.str s_379 (nat_lit 901)), (.str s_380 (nat_lit 905)), (.str s_381 (nat_lit 909)), (.str s_382 (nat_lit 913)), (.str s_383 (nat_lit 917)), (.str s_384 (nat_lit 921)), (.str s_385 (nat_lit 925)), (.str s_386 (nat_lit 929)), (.str s_387 (nat_lit 933)), (.str s_388 (nat_lit 937)), (.str s_389 (nat_lit 941)), (.str s_390 (nat_lit 945)), (.str s_391 (nat_lit 949)), (.str s_392 (nat_lit 953)), (.str s_393 (nat_lit 957)), (.str s_394 (nat_lit 961)), (.str s_395 (nat_lit 965)), (.str s_396 (nat_lit 969)), (.str s_397 (nat_lit 973)), (.str s_398 (nat_lit 977)), (.str s_399 (nat_lit 981)), (.str s_400 (nat_lit 985)), (.str s_401 (nat_lit 989)), (.str s_402 (nat_lit 993)), (.str s_403 (nat_lit 997)), (.str s_404 (nat_lit 1001)), (.str s_405 (nat_lit 1005)), (.str s_406 (nat_lit 1009)), (.str s_407 (nat_lit 1013)), (.str s_408 (nat_lit 1017)), (.str s_409 (nat_lit 1021)), (.str s_410 (nat_lit 1025)), (.str s_411 (nat_lit 1029)), (.str s_412 (nat_lit 1033)), (.str s_413 (nat_lit 1037)), (.str s_414 (nat_lit 1041)), (.str s_415 (nat_lit 1045)), (.str s_416 (nat_lit 1049)), (.str s_417 (nat_lit 1053)), (.str s_418 (nat_lit 1057)), (.str s_419 (nat_lit 1061)), (.str s_420 (nat_lit 1065)), (.str s_421 (nat_lit 1069)), (.str s_422 (nat_lit 1073)), (.str s_423 (nat_lit 1077)), (.str s_424 (nat_lit 1081)), (.str s_425 (nat_lit 1085)), (.str s_426 (nat_lit 1089)), (.str s_427 (nat_lit 1093)), (.str s_428 (nat_lit 1097)), (.str s_429 (nat_lit 1101)), (.str s_430 (nat_lit 1105)), (.str s_431 (nat_lit 1109)), (.str s_432 (nat_lit 1113)), (.str s_433 (nat_lit 1117)), (.str s_434 (nat_lit 1121)), (.str s_435 (nat_lit 1125)), (.str s_436 (nat_lit 1129)), (.str s_437 (nat_lit 1133)), (.str s_438 (nat_lit 1137)), (.str s_439 (nat_lit 1141)), (.str s_440 (nat_lit 1145)), (.str s_441 (nat_lit 1149)), (.str s_442 (nat_lit 1153)), (.str s_443 (nat_lit 1157)), (.str s_444 (nat_lit 1161)), (.str s_445 (nat_lit 1165)), (.str s_446 (nat_lit 1169)), (.str s_447 (nat_lit 1173)), (.str s_448 (nat_lit 1177)), (.str s_449 (nat_lit 1181)), (.str s_450 (nat_lit 1185)), (.str s_451 (nat_lit 1189)), (.str s_452 (nat_lit 1193)), (.str s_453 (nat_lit 1197)), (.str s_454 (nat_lit 1201)), (.str s_455 (nat_lit 1205)), (.str s_456 (nat_lit 1209)), (.str s_457 (nat_lit 1213)), (.str s_458 (nat_lit 1217)), (.str s_459 (nat_lit 1221)), (.str s_460 (nat_lit 1225)), (.str s_461 (nat_lit 1229)), (.str s_462 (nat_lit 1233)), (.str s_463 (nat_lit 1237)), (.str s_464 (nat_lit 1241)), (.str s_465 (nat_lit 1245)), (.str s_466 (nat_lit 1249)), (.str s_467 (nat_lit 1253)), (.str s_468 (nat_lit 1257)), (.str s_469 (nat_lit 1261)), (.str s_470 (nat_lit 1265)), (.str s_471 (nat_lit 1269)), (.str s_472 (nat_lit 1273)), (.str s_473 (nat_lit 1277)), (.str s_474 (nat_lit 1281)), (.str s_475 (nat_lit 1285)), (.str s_476 (nat_lit 1289)), (.str s_477 (nat_lit 1293)), (.str s_478 (nat_lit 1297)), (.str s_479 (nat_lit 1301)), (.str s_480 (nat_lit 1305)), (.str s_481 (nat_lit 1309)), (.str s_482 (nat_lit 1313)), (.str s_483 (nat_lit 1317)), (.str s_484 (nat_lit 1321)), (.str s_485 (nat_lit 1325)), (.str s_486 (nat_lit 1329)), (.str s_487 (nat_lit 1333)), (.str s_488 (nat_lit 1337)), (.str s_489 (nat_lit 1341)), (.str s_490 (nat_lit 1345)), (.str s_491 (nat_lit 1349)), (.str s_492 (nat_lit 1353)), (.str s_493 (nat_lit 1357)), (.str s_494 (nat_lit 1361)), (.str s_495 (nat_lit 1365)), (.str s_496 (nat_lit 1369)), (.str s_497 (nat_lit 1373)), (.str s_498 (nat_lit 1377)), (.str s_499 (nat_lit 1381)), (.str s_500 (nat_lit 1385)), (.str s_501 (nat_lit 1389)), (.str s_502 (nat_lit 1393)), (.str s_503 (nat_lit 1397)), (.str s_504 (nat_lit 1401)), (.str s_505 (nat_lit 1405)), (.str s_506 (nat_lit 1409)), (.str s_507 (nat_lit 1413))]) (nat_lit 256)), (.mk [])⟩
noncomputable def o_68 (_ : Params) : Obj := ⟨(.type "dict"), none, (.dict (.mk []) (nat_lit 2)), (.mk [])⟩
noncomputable def o_69 (_ : Params) : Obj := ⟨(.type "StopIteration"), none, (.fields (.mk [(.ref (nat_lit 90)), .none, .none, .none, (.bool false), .none])), (.mk [])⟩
noncomputable def o_70 (P : Params) : Obj := ⟨(.type "dict"), none, (.dict (.mk [⟨(PyData.keyHash P s_0), (.str s_0 (nat_lit 165)), (.str s_508 (nat_lit 1425))⟩, ⟨(PyData.keyHash P s_2), (.str s_2 (nat_lit 166)), .none⟩, ⟨(PyData.keyHash P s_3), (.str s_3 (nat_lit 167)), .none⟩, ⟨(PyData.keyHash P s_4), (.str s_4 (nat_lit 168)), (.builtin "__main__.__loader__#opaque")⟩, ⟨(PyData.keyHash P s_5), (.str s_5 (nat_lit 169)), .none⟩, ⟨(PyData.keyHash P s_173), (.str s_173 (nat_lit 170)), (.ref (nat_lit 6))⟩, ⟨(PyData.keyHash P s_174), (.str s_174 (nat_lit 171)), (.ref (nat_lit 4))⟩, ⟨(PyData.keyHash P s_175), (.str s_175 (nat_lit 173)), (.str s_176 (nat_lit 172))⟩, ⟨(PyData.keyHash P s_177), (.str s_177 (nat_lit 174)), .none⟩, ⟨(PyData.keyHash P s_161), (.str s_161 (nat_lit 275)), (.ref (nat_lit 12))⟩, ⟨(PyData.keyHash P s_228), (.str s_228 (nat_lit 291)), (.ref (nat_lit 38))⟩, ⟨(PyData.keyHash P s_229), (.str s_229 (nat_lit 300)), (.ref (nat_lit 45))⟩, ⟨(PyData.keyHash P s_230), (.str s_230 (nat_lit 309)), (.ref (nat_lit 52))⟩, ⟨(PyData.keyHash P s_231), (.str s_231 (nat_lit 317)), (.ref (nat_lit 59))⟩, ⟨(PyData.keyHash P s_232), (.str s_232 (nat_lit 326)), (.ref (nat_lit 66))⟩, ⟨(PyData.keyHash P s_233), (.str s_233 (nat_lit 338)), (.ref (nat_lit 73))⟩, ⟨(PyData.keyHash P s_234), (.str s_234 (nat_lit 351)), (.ref (nat_lit 80))⟩, ⟨(PyData.keyHash P s_235), (.str s_235 (nat_lit 386)), (.ref (nat_lit 85))⟩, ⟨(PyData.keyHash P s_251), (.str s_251 (nat_lit 1414)), (.ref (nat_lit 88))⟩, ⟨(PyData.keyHash P s_509), (.str s_509 (nat_lit 1415)), (.ref (nat_lit 93))⟩, ⟨(PyData.keyHash P s_510), (.str s_510 (nat_lit 1416)), (.ref (nat_lit 95))⟩, ⟨(PyData.keyHash P s_511), (.str s_511 (nat_lit 1418)), (.str s_512 (nat_lit 1417))⟩, ⟨(PyData.keyHash P s_513), (.str s_513 (nat_lit 1420)), (.str s_514 (nat_lit 1419))⟩, ⟨(PyData.keyHash P s_515), (.str s_515 (nat_lit 1422)), (.str s_516 (nat_lit 1421))⟩, ⟨(PyData.keyHash P s_517), (.str s_517 (nat_lit 1424)), (.str s_518 (nat_lit 1423))⟩]) (nat_lit 25)), (.mk [])⟩
noncomputable def o_71 (_ : Params) : Obj := ⟨(.type "slice"), none, (.fields (.mk [.none, .none, .none])), (.mk [])⟩
noncomputable def o_72 (_ : Params) : Obj := ⟨(.type "list"), none, (.seq (.mk [(.str s_252 (nat_lit 393)), (.str s_253 (nat_lit 397)), (.str s_254 (nat_lit 401)), (.str s_255 (nat_lit 405)), (.str s_256 (nat_lit 409)), (.str s_257 (nat_lit 413)), (.str s_258 (nat_lit 417)), (.str s_259 (nat_lit 421)), (.str s_260 (nat_lit 425)), (.str s_261 (nat_lit 429)), (.str s_262 (nat_lit 433)), (.str s_263 (nat_lit 437)), (.str s_264 (nat_lit 441)), (.str s_265 (nat_lit 445)), (.str s_266 (nat_lit 449)), (.str s_267 (nat_lit 453)), (.str s_268 (nat_lit 457)), (.str s_269 (nat_lit 461)), (.str s_270 (nat_lit 465)), (.str s_271 (nat_lit 469)), (.str s_272 (nat_lit 473)), (.str s_273 (nat_lit 477)), (.str s_274 (nat_lit 481)), (.str s_275 (nat_lit 485)), (.str s_276 (nat_lit 489)), (.str s_277 (nat_lit 493)), (.str s_278 (nat_lit 497)), (.str s_279 (nat_lit 501)), (.str s_280 (nat_lit 505)), (.str s_281 (nat_lit 509)), (.str s_282 (nat_lit 513)), (.str s_283 (nat_lit 517)), (.str s_284 (nat_lit 521)), (.str s_285 (nat_lit 525)), (.str s_286 (nat_lit 529)), (.str s_287 (nat_lit 533)), (.str s_288 (nat_lit 537)), (.str s_289 (nat_lit 541)), (.str s_290 (nat_lit 545)), (.str s_291 (nat_lit 549)), (.str s_292 (nat_lit 553)), (.str s_293 (nat_lit 557)), (.str s_294 (nat_lit 561)), (.str s_295 (nat_lit 565)), (.str s_296 (nat_lit 569)), (.str s_297 (nat_lit 573)), (.str s_298 (nat_lit 577)), (.str s_299 (nat_lit 581)), (.str s_300 (nat_lit 585)), (.str s_301 (nat_lit 589)), (.str s_302 (nat_lit 593)), (.str s_303 (nat_lit 597)), (.str s_304 (nat_lit 601)), (.str s_305 (nat_lit 605)), (.str s_306 (nat_lit 609)), (.str s_307 (nat_lit 613)), (.str s_308 (nat_lit 617)), (.str s_309 (nat_lit 621)), (.str s_310 (nat_lit 625)), (.str s_311 (nat_lit 629)), (.str s_312 (nat_lit 633)), (.str s_313 (nat_lit 637)), (.str s_314 (nat_lit 641)), (.str s_315 (nat_lit 645)), (.str s_316 (nat_lit 649)), (.str s_317 (nat_lit 653)), (.str s_318 (nat_lit 657)), (.str s_319 (nat_lit 661)), (.str s_320 (nat_lit 665)), (.str s_321 (nat_lit 669)), (.str s_322 (nat_lit 673)), (.str s_323 (nat_lit 677)), (.str s_324 (nat_lit 681)), (.str s_325 (nat_lit 685)), (.str s_326 (nat_lit 689)), (.str s_327 (nat_lit 693)), (.str s_328 (nat_lit 697)), (.str s_329 (nat_lit 701)), (.str s_330 (nat_lit 705)), (.str s_331 (nat_lit 709)), (.str s_332 (nat_lit 713)), (.str s_333 (nat_lit 717)), (.str s_334 (nat_lit 721)), (.str s_335 (nat_lit 725)), (.str s_336 (nat_lit 729)), (.str s_337 (nat_lit 733)), (.str s_338 (nat_lit 737)), (.str s_339 (nat_lit 741)), (.str s_340 (nat_lit 745)), (.str s_341 (nat_lit 749)), (.str s_342 (nat_lit 753)), (.str s_343 (nat_lit 757)), (.str s_344 (nat_lit 761)), (.str s_345 (nat_lit 765)), (.str s_346 (nat_lit 769)), (.str s_347 (nat_lit 773)), (.str s_348 (nat_lit 777)), (.str s_349 (nat_lit 781)), (.str s_350 (nat_lit 785)), (.str s_351 (nat_lit 789)), (.str s_352 (nat_lit 793)), (.str s_353 (nat_lit 797)), (.str s_354 (nat_lit 801)), (.str s_355 (nat_lit 805)), (.str s_356 (nat_lit 809)), (.str s_357 (nat_lit 813)), (.str s_358 (nat_lit 817)), (.str s_359 (nat_lit 821)), (.str s_360 (nat_lit 825)), (.str s_361 (nat_lit 829)), (.str s_362 (nat_lit 833)), (.str s_363 (nat_lit 837)), (.str s_364 (nat_lit 841)), (.str s_365 (nat_lit 845)), (.str s_366 (nat_lit 849)), (.str s_367 (nat_lit 853)), (.str s_368 (nat_lit 857)), (.str s_369 (nat_lit 861)), (.str s_370 (nat_lit 865)), (.str s_371 (nat_lit 869)), (.str s_372 (nat_lit 873)), (.str s_373 (nat_lit 877)), (.str s_374 (nat_lit 881)), (.str s_375 (nat_lit 885)), (.str s_376 (nat_lit 889)), (.str s_377 (nat_lit 893)), (.str s_378 (nat_lit 897)), (.str s_379 (nat_lit 901)), (.str s_380 (nat_lit 905)), (.str s_381 (nat_lit 909)), (.str s_382 (nat_lit 913)), (.str s_383 (nat_lit 917)), (.str s_384 (nat_lit 921)), (.str s_385 (nat_lit 925)), (.str s_386 (nat_lit 929)), (.str s_387 (nat_lit 933)), (.str s_388 (nat_lit 937)), (.str s_389 (nat_lit 941)), (.str s_390 (nat_lit 945)), (.str s_391 (nat_lit 949)), (.str s_392 (nat_lit 953)), (.str s_393 (nat_lit 957)), (.str s_394 (nat_lit 961)), (.str s_395 (nat_lit 965)), (.str s_396 (nat_lit 969)), (.str s_397 (nat_lit 973)), (.str s_398 (nat_lit 977)), (.str s_399 (nat_lit 981)), (.str s_400 (nat_lit 985)), (.str s_401 (nat_lit 989)), (.str s_402 (nat_lit 993)), (.str s_403 (nat_lit 997)), (.str s_404 (nat_lit 1001)), (.str s_405 (nat_lit 1005)), (.str s_406 (nat_lit 1009)), (.str s_407 (nat_lit 1013)), (.str s_408 (nat_lit 1017)), (.str s_409 (nat_lit 1021)), (.str s_410 (nat_lit 1025)), (.str s_411 (nat_lit 1029)), (.str s_412 (nat_lit 1033)), (.str s_413 (nat_lit 1037)), (.str s_414 (nat_lit 1041)), (.str s_415 (nat_lit 1045)), (.str s_416 (nat_lit 1049)), (.str s_417 (nat_lit 1053)), (.str s_418 (nat_lit 1057)), (.str s_419 (nat_lit 1061)), (.str s_420 (nat_lit 1065)), (.str s_421 (nat_lit 1069)), (.str s_422 (nat_lit 1073)), (.str s_423 (nat_lit 1077)), (.str s_424 (nat_lit 1081)), (.str s_425 (nat_lit 1085)), (.str s_426 (nat_lit 1089)), (.str s_427 (nat_lit 1093)), (.str s_428 (nat_lit 1097)), (.str s_429 (nat_lit 1101)), (.str s_430 (nat_lit 1105)), (.str s_431 (nat_lit 1109)), (.str s_432 (nat_lit 1113)), (.str s_433 (nat_lit 1117)), (.str s_434 (nat_lit 1121)), (.str s_435 (nat_lit 1125)), (.str s_436 (nat_lit 1129)), (.str s_437 (nat_lit 1133)), (.str s_438 (nat_lit 1137)), (.str s_439 (nat_lit 1141)), (.str s_440 (nat_lit 1145)), (.str s_441 (nat_lit 1149)), (.str s_442 (nat_lit 1153)), (.str s_443 (nat_lit 1157)), (.str s_444 (nat_lit 1161)), (.str s_445 (nat_lit 1165)), (.str s_446 (nat_lit 1169)), (.str s_447 (nat_lit 1173)), (.str s_448 (nat_lit 1177)), (.str s_449 (nat_lit 1181)), (.str s_450 (nat_lit 1185)), (.str s_451 (nat_lit 1189)), (.str s_452 (nat_lit 1193)), (.str s_453 (nat_lit 1197)), (.str s_454 (nat_lit 1201)), (.str s_455 (nat_lit 1205)), (.str s_456 (nat_lit 1209)), (.str s_457 (nat_lit 1213)), (.str s_458 (nat_lit 1217)), (.str s_459 (nat_lit 1221)), (.str s_460 (nat_lit 1225)), (.str s_461 (nat_lit 1229)), (.str s_462 (nat_lit 1233)), (.str s_463 (nat_lit 1237)), (.str s_464 (nat_lit 1241)), (.str s_465 (nat_lit 1245)), (.str s_466 (nat_lit 1249)), (.str s_467 (nat_lit 1253)), (.str s_468 (nat_lit 1257)), (.str s_469 (nat_lit 1261)), (.str s_470 (nat_lit 1265)), (.str s_471 (nat_lit 1269)), (.str s_472 (nat_lit 1273)), (.str s_473 (nat_lit 1277)), (.str s_474 (nat_lit 1281)), (.str s_475 (nat_lit 1285)), (.str s_476 (nat_lit 1289)), (.str s_477 (nat_lit 1293)), (.str s_478 (nat_lit 1297)), (.str s_479 (nat_lit 1301)), (.str s_480 (nat_lit 1305)), (.str s_481 (nat_lit 1309)), (.str s_482 (nat_lit 1313)), (.str s_483 (nat_lit 1317)), (.str s_484 (nat_lit 1321)), (.str s_485 (nat_lit 1325)), (.str s_486 (nat_lit 1329)), (.str s_487 (nat_lit 1333)), (.str s_488 (nat_lit 1337)), (.str s_489 (nat_lit 1341)), (.str s_490 (nat_lit 1345)), (.str s_491 (nat_lit 1349)), (.str s_492 (nat_lit 1353)), (.str s_493 (nat_lit 1357)), (.str s_494 (nat_lit 1361)), (.str s_495 (nat_lit 1365)), (.str s_496 (nat_lit 1369)), (.str s_497 (nat_lit 1373)), (.str s_498 (nat_lit 1377)), (.str s_499 (nat_lit 1381)), (.str s_500 (nat_lit 1385)), (.str s_501 (nat_lit 1389)), (.str s_502 (nat_lit 1393)), (.str s_503 (nat_lit 1397)), (.str s_504 (nat_lit 1401)), (.str s_505 (nat_lit 1405)), (.str s_506 (nat_lit 1409)), (.str s_507 (nat_lit 1413))]) (nat_lit 0)), (.mk [])⟩
noncomputable def o_73 (P : Params) : Obj := ⟨(.type "dict"), none, (.dict (.mk [⟨(PyData.keyHash P s_0), (.str s_0 (nat_lit 165)), (.str s_508 (nat_lit 1425))⟩, ⟨(PyData.keyHash P s_2), (.str s_2 (nat_lit 166)), .none⟩, ⟨(PyData.keyHash P s_3), (.str s_3 (nat_lit 167)), .none⟩, ⟨(PyData.keyHash P s_4), (.str s_4 (nat_lit 168)), (.builtin "__main__.__loader__#opaque")⟩, ⟨(PyData.keyHash P s_5), (.str s_5 (nat_lit 169)), .none⟩, ⟨(PyData.keyHash P s_173), (.str s_173 (nat_lit 170)), (.ref (nat_lit 6))⟩, ⟨(PyData.keyHash P s_174), (.str s_174 (nat_lit 171)), (.ref (nat_lit 4))⟩, ⟨(PyData.keyHash P s_175), (.str s_175 (nat_lit 173)), (.str s_176 (nat_lit 172))⟩, ⟨(PyData.keyHash P s_177), (.str s_177 (nat_lit 174)), .none⟩, ⟨(PyData.keyHash P s_161), (.str s_161 (nat_lit 275)), (.ref (nat_lit 12))⟩, ⟨(PyData.keyHash P s_228), (.str s_228 (nat_lit 291)), (.ref (nat_lit 38))⟩, ⟨(PyData.keyHash P s_229), (.str s_229 (nat_lit 300)), (.ref (nat_lit 45))⟩, ⟨(PyData.keyHash P s_230), (.str s_230 (nat_lit 309)), (.ref (nat_lit 52))⟩, ⟨(PyData.keyHash P s_231), (.str s_231 (nat_lit 317)), (.ref (nat_lit 59))⟩, ⟨(PyData.keyHash P s_232), (.str s_232 (nat_lit 326)), (.ref (nat_lit 66))⟩, ⟨(PyData.keyHash P s_233), (.str s_233 (nat_lit 338)), (.ref (nat_lit 73))⟩, ⟨(PyData.keyHash P s_234), (.str s_234 (nat_lit 351)), (.ref (nat_lit 80))⟩, ⟨(PyData.keyHash P s_235), (.str s_235 (nat_lit 386)), (.ref (nat_lit 85))⟩, ⟨(PyData.keyHash P s_251), (.str s_251 (nat_lit 1414)), (.ref (nat_lit 88))⟩, ⟨(PyData.keyHash P s_509), (.str s_509 (nat_lit 1415)), (.ref (nat_lit 93))⟩, ⟨(PyData.keyHash P s_510), (.str s_510 (nat_lit 1416)), (.ref (nat_lit 95))⟩, ⟨(PyData.keyHash P s_511), (.str s_511 (nat_lit 1418)), (.str s_512 (nat_lit 1417))⟩, ⟨(PyData.keyHash P s_513), (.str s_513 (nat_lit 1420)), (.str s_514 (nat_lit 1419))⟩, ⟨(PyData.keyHash P s_515), (.str s_515 (nat_lit 1422)), (.str s_516 (nat_lit 1421))⟩, ⟨(PyData.keyHash P s_517), (.str s_517 (nat_lit 1424)), (.str s_518 (nat_lit 1423))⟩, ⟨(PyData.keyHash P s_519), (.str s_519 (nat_lit 1435)), (.int (.ofNat (nat_lit 57)) (nat_lit 1632))⟩]) (nat_lit 26)), (.mk [])⟩
noncomputable def o_74 (_ : Params) : Obj := ⟨(.type "list"), none, (.seq (.mk [(.str s_252 (nat_lit 393)), (.str s_253 (nat_lit 397)), (.str s_254 (nat_lit 401)), (.str s_255 (nat_lit 405)), (.str s_256 (nat_lit 409)), (.str s_257 (nat_lit 413)), (.str s_258 (nat_lit 417)), (.str s_259 (nat_lit 421)), (.str s_260 (nat_lit 425)), (.str s_261 (nat_lit 429)), (.str s_262 (nat_lit 433)), (.str s_263 (nat_lit 437)), (.str s_264 (nat_lit 441)), (.str s_265 (nat_lit 445)), (.str s_266 (nat_lit 449)), (.str s_267 (nat_lit 453)), (.str s_268 (nat_lit 457)), (.str s_269 (nat_lit 461)), (.str s_270 (nat_lit 465)), (.str s_271 (nat_lit 469)), (.str s_272 (nat_lit 473)), (.str s_273 (nat_lit 477)), (.str s_274 (nat_lit 481)), (.str s_275 (nat_lit 485)), (.str s_276 (nat_lit 489)), (.str s_277 (nat_lit 493)), (.str s_278 (nat_lit 497)), (.str s_279 (nat_lit 501)), (.str s_280 (nat_lit 505)), (.str s_281 (nat_lit 509)), (.str s_282 (nat_lit 513)), (.str s_283 (nat_lit 517)), (.str s_284 (nat_lit 521)), (.str s_520 (nat_lit 1439)), (.str s_286 (nat_lit 529)), (.str s_287 (nat_lit 533)), (.str s_288 (nat_lit 537)), (.str s_289 (nat_lit 541)), (.str s_290 (nat_lit 545)), (.str s_291 (nat_lit 549)), (.str s_292 (nat_lit 553)), (.str s_293 (nat_lit 557)), (.str s_521 (nat_lit 1442)), (.str s_522 (nat_lit 1445)), (.str s_296 (nat_lit 569)), (.str s_523 (nat_lit 1436)), (.str s_298 (nat_lit 577)), (.str s_524 (nat_lit 1448)), (.str s_525 (nat_lit 1607)), (.str s_526 (nat_lit 1610)), (.str s_527 (nat_lit 1613)), (.str s_528 (nat_lit 1616)), (.str s_529 (nat_lit 1619)), (.str s_530 (nat_lit 1622)), (.str s_531 (nat_lit 1625)), (.str s_532 (nat_lit 1628)), (.str s_533 (nat_lit 1631)), (.str s_534 (nat_lit 1634)), (.str s_310 (nat_lit 625)), (.str s_311 (nat_lit 629)), (.str s_312 (nat_lit 633)), (.str s_313 (nat_lit 637)), (.str s_314 (nat_lit 641)), (.str s_315 (nat_lit 645)), (.str s_316 (nat_lit 649)), (.str s_535 (nat_lit 1529)), (.str s_536 (nat_lit 1532)), (.str s_537 (nat_lit 1535)), (.str s_538 (nat_lit 1538)), (.str s_539 (nat_lit 1541)), (.str s_540 (nat_lit 1544)), (.str s_541 (nat_lit 1547)), (.str s_542 (nat_lit 1550)), (.str s_543 (nat_lit 1553)), (.str s_544 (nat_lit 1556)), (.str s_545 (nat_lit 1559)), (.str s_546 (nat_lit 1562)), (.str s_547 (nat_lit 1565)), (.str s_548 (nat_lit 1568)), (.str s_549 (nat_lit 1571)), (.str s_550 (nat_lit 1574)), (.str s_551 (nat_lit 1577)), (.str s_552 (nat_lit 1580)), (.str s_553 (nat_lit 1583)), (.str s_554 (nat_lit 1586)), (.str s_555 (nat_lit 1589)), (.str s_556 (nat_lit 1592)), (.str s_557 (nat_lit 1595)), (.str s_558 (nat_lit 1598)), (.str s_559 (nat_lit 1601)), (.str s_560 (nat_lit 1604)), (.str s_343 (nat_lit 757)), (.str s_344 (nat_lit 761)), (.str s_345 (nat_lit 765)), (.str s_346 (nat_lit 769)), (.str s_347 (nat_lit 773)), (.str s_348 (nat_lit 777)), (.str s_561 (nat_lit 1451)), (.str s_562 (nat_lit 1454)), (.str s_519 (nat_lit 1457)), (.str s_563 (nat_lit 1460)), (.str s_564 (nat_lit 1463)), (.str s_565 (nat_lit 1466)), (.str s_566 (nat_lit 1469)), (.str s_567 (nat_lit 1472)), (.str s_242 (nat_lit 1475)), (.str s_568 (nat_lit 1478)), (.str s_569 (nat_lit 1481)), (.str s_570 (nat_lit 1484)), (.str s_571 (nat_lit 1487)), (.str s_241 (nat_lit 1490)), (.str s_572 (nat_lit 1493)), (.str s_573 (nat_lit 1496)), (.str s_574 (nat_lit 1499)), (.str s_575 (nat_lit 1502)), (.str s_576 (nat_lit 1505)), (.str s_577 (nat_lit 1508)), (.str s_578 (nat_lit 1511)), (.str s_579 (nat_lit 1514)), (.str s_580 (nat_lit 1517)), (.str s_240 (nat_lit 1520)), (.str s_581 (nat_lit 1523)), (.str s_582 (nat_lit 1526)), (.str s_375 (nat_lit 885)), (.str s_376 (nat_lit 889)), (.str s_377 (nat_lit 893)), (.str s_378 (nat_lit 897)), (.str s_379 (nat_lit 901)), (.str s_380 (nat_lit 905)), (.str s_381 (nat_lit 909)), (.str s_382 (nat_lit 913)), (.str s_383 (nat_lit 917)), (.str s_384 (nat_lit 921)), (.str s_385 (nat_lit 925)), (.str s_386 (nat_lit 929)), (.str s_387 (nat_lit 933)), (.str s_388 (nat_lit 937)), (.str s_389 (nat_lit 941)), (.str s_390 (nat_lit 945)), (.str s_391 (nat_lit 949)), (.str s_392 (nat_lit 953)), (.str s_393 (nat_lit 957)), (.str s_394 (nat_lit 961)), (.str s_395 (nat_lit 965)), (.str s_396 (nat_lit 969)), (.str s_397 (nat_lit 973)), (.str s_398 (nat_lit 977)), (.str s_399 (nat_lit 981)), (.str s_400 (nat_lit 985)), (.str s_401 (nat_lit 989)), (.str s_402 (nat_lit 993)), (.str s_403 (nat_lit 997)), (.str s_404 (nat_lit 1001)), (.str s_405 (nat_lit 1005)), (.str s_406 (nat_lit 1009)), (.str s_407 (nat_lit 1013)), (.str s_408 (nat_lit 1017)), (.str s_409 (nat_lit 1021)), (.str s_410 (nat_lit 1025)), (.str s_411 (nat_lit 1029)), (.str s_412 (nat_lit 1033)), (.str s_413 (nat_lit 1037)), (.str s_414 (nat_lit 1041)), (.str s_415 (nat_lit 1045)), (.str s_416 (nat_lit 1049)), (.str s_417 (nat_lit 1053)), (.str s_418 (nat_lit 1057)), (.str s_419 (nat_lit 1061)), (.str s_420 (nat_lit 1065)), (.str s_421 (nat_lit 1069)), (.str s_422 (nat_lit 1073)), (.str s_423 (nat_lit 1077)), (.str s_424 (nat_lit 1081)), (.str s_425 (nat_lit 1085)), (.str s_426 (nat_lit 1089)), (.str s_427 (nat_lit 1093)), (.str s_428 (nat_lit 1097)), (.str s_429 (nat_lit 1101)), (.str s_430 (nat_lit 1105)), (.str s_431 (nat_lit 1109)), (.str s_432 (nat_lit 1113)), (.str s_433 (nat_lit 1117)), (.str s_434 (nat_lit 1121)), (.str s_435 (nat_lit 1125)), (.str s_436 (nat_lit 1129)), (.str s_437 (nat_lit 1133)), (.str s_438 (nat_lit 1137)), (.str s_439 (nat_lit 1141)), (.str s_440 (nat_lit 1145)), (.str s_441 (nat_lit 1149)), (.str s_442 (nat_lit 1153)), (.str s_443 (nat_lit 1157)), (.str s_444 (nat_lit 1161)), (.str s_445 (nat_lit 1165)), (.str s_446 (nat_lit 1169)), (.str s_447 (nat_lit 1173)), (.str s_448 (nat_lit 1177)), (.str s_449 (nat_lit 1181)), (.str s_450 (nat_lit 1185)), (.str s_451 (nat_lit 1189)), (.str s_452 (nat_lit 1193)), (.str s_453 (nat_lit 1197)), (.str s_454 (nat_lit 1201)), (.str s_455 (nat_lit 1205)), (.str s_456 (nat_lit 1209)), (.str s_457 (nat_lit 1213)), (.str s_458 (nat_lit 1217)), (.str s_459 (nat_lit 1221)), (.str s_460 (nat_lit 1225)), (.str s_461 (nat_lit 1229)), (.str s_462 (nat_lit 1233)), (.str s_463 (nat_lit 1237)), (.str s_464 (nat_lit 1241)), (.str s_465 (nat_lit 1245)), (.str s_466 (nat_lit 1249)), (.str s_467 (nat_lit 1253)), (.str s_468 (nat_lit 1257)), (.str s_469 (nat_lit 1261)), (.str s_470 (nat_lit 1265)), (.str s_471 (nat_lit 1269)), (.str s_472 (nat_lit 1273)), (.str s_473 (nat_lit 1277)), (.str s_474 (nat_lit 1281)), (.str s_475 (nat_lit 1285)), (.str s_476 (nat_lit 1289)), (.str s_477 (nat_lit 1293)), (.str s_478 (nat_lit 1297)), (.str s_479 (nat_lit 1301)), (.str s_480 (nat_lit 1305)), (.str s_481 (nat_lit 1309)), (.str s_482 (nat_lit 1313)), (.str s_483 (nat_lit 1317)), (.str s_484 (nat_lit 1321)), (.str s_485 (nat_lit 1325)), (.str s_486 (nat_lit 1329)), (.str s_487 (nat_lit 1333)), (.str s_488 (nat_lit 1337)), (.str s_489 (nat_lit 1341)), (.str s_490 (nat_lit 1345)), (.str s_491 (nat_lit 1349)), (.str s_492 (nat_lit 1353)), (.str s_493 (nat_lit 1357)), (.str s_494 (nat_lit 1361)), (.str s_495 (nat_lit 1365)), (.str s_496 (nat_lit 1369)), (.str s_497 (nat_lit 1373)), (.str s_498 (nat_lit 1377)), (.str s_499 (nat_lit 1381)), (.str s_500 (nat_lit 1385)), (.str s_501 (nat_lit 1389)), (.str s_502 (nat_lit 1393)), (.str s_503 (nat_lit 1397)), (.str s_504 (nat_lit 1401)), (.str s_505 (nat_lit 1405)), (.str s_506 (nat_lit 1409)), (.str s_507 (nat_lit 1413))]) (nat_lit 0)), (.mk [])⟩
noncomputable def o_75 (_ : Params) : Obj := ⟨(.type "bytes_iterator"), none, (.fields (.mk [.none, (.int (.ofNat (nat_lit 67)) (nat_lit 0))])), (.mk [])⟩
noncomputable def o_76 (_ : Params) : Obj := ⟨(.type "StopIteration"), none, (.fields (.mk [(.ref (nat_lit 97)), .none, .none, .none, (.bool false), .none])), (.mk [])⟩
noncomputable def o_77 (_ : Params) : Obj := ⟨(.type "list"), none, (.seq (.mk [(.str s_252 (nat_lit 393)), (.str s_253 (nat_lit 397)), (.str s_254 (nat_lit 401)), (.str s_255 (nat_lit 405)), (.str s_256 (nat_lit 409)), (.str s_257 (nat_lit 413)), (.str s_258 (nat_lit 417)), (.str s_259 (nat_lit 421)), (.str s_260 (nat_lit 425)), (.str s_261 (nat_lit 429)), (.str s_262 (nat_lit 433)), (.str s_263 (nat_lit 437)), (.str s_264 (nat_lit 441)), (.str s_265 (nat_lit 445)), (.str s_266 (nat_lit 449)), (.str s_267 (nat_lit 453)), (.str s_268 (nat_lit 457)), (.str s_269 (nat_lit 461)), (.str s_270 (nat_lit 465)), (.str s_271 (nat_lit 469)), (.str s_272 (nat_lit 473)), (.str s_273 (nat_lit 477)), (.str s_274 (nat_lit 481)), (.str s_275 (nat_lit 485)), (.str s_276 (nat_lit 489)), (.str s_277 (nat_lit 493)), (.str s_278 (nat_lit 497)), (.str s_279 (nat_lit 501)), (.str s_280 (nat_lit 505)), (.str s_281 (nat_lit 509)), (.str s_282 (nat_lit 513)), (.str s_283 (nat_lit 517)), (.str s_583 (nat_lit 1635)), (.str s_520 (nat_lit 1439)), (.str s_286 (nat_lit 529)), (.str s_287 (nat_lit 533)), (.str s_288 (nat_lit 537)), (.str s_289 (nat_lit 541)), (.str s_290 (nat_lit 545)), (.str s_291 (nat_lit 549)), (.str s_292 (nat_lit 553)), (.str s_293 (nat_lit 557)), (.str s_521 (nat_lit 1442)), (.str s_522 (nat_lit 1445)), (.str s_296 (nat_lit 569)), (.str s_523 (nat_lit 1436)), (.str s_298 (nat_lit 577)), (.str s_524 (nat_lit 1448)), (.str s_525 (nat_lit 1607)), (.str s_526 (nat_lit 1610)), (.str s_527 (nat_lit 1613)), (.str s_528 (nat_lit 1616)), (.str s_529 (nat_lit 1619)), (.str s_530 (nat_lit 1622)), (.str s_531 (nat_lit 1625)), (.str s_532 (nat_lit 1628)), (.str s_533 (nat_lit 1631)), (.str s_534 (nat_lit 1634)), (.str s_310 (nat_lit 625)), (.str s_311 (nat_lit 629)), (.str s_312 (nat_lit 633)), (.str s_313 (nat_lit 637)), (.str s_314 (nat_lit 641)), (.str s_315 (nat_lit 645)), (.str s_316 (nat_lit 649)), (.str s_535 (nat_lit 1529)), (.str s_536 (nat_lit 1532)), (.str s_537 (nat_lit 1535)), (.str s_538 (nat_lit 1538)), (.str s_539 (nat_lit 1541)), (.str s_540 (nat_lit 1544)), (.str s_541 (nat_lit 1547)), (.str s_542 (nat_lit 1550)), (.str s_543 (nat_lit 1553)), (.str s_544 (nat_lit 1556)), (.str s_545 (nat_lit 1559)), (.str s_546 (nat_lit 1562)), (.str s_547 (nat_lit 1565)), (.str s_548 (nat_lit 1568)), (.str s_549 (nat_lit 1571)), (.str s_550 (nat_lit 1574)), (.str s_551 (nat_lit 1577)), (.str s_552 (nat_lit 1580)), (.str s_553 (nat_lit 1583)), (.str s_554 (nat_lit 1586)), (.str s_555 (nat_lit 1589)), (.str s_556 (nat_lit 1592)), (.str s_557 (nat_lit 1595)), (.str s_558 (nat_lit 1598)), (.str s_559 (nat_lit 1601)), (.str s_560 (nat_lit 1604)), (.str s_343 (nat_lit 757)), (.str s_344 (nat_lit 761)), (.str s_345 (nat_lit 765)), (.str s_346 (nat_lit 769)), (.str s_347 (nat_lit 773)), (.str s_348 (nat_lit 777)), (.str s_561 (nat_lit 1451)), (.str s_562 (nat_lit 1454)), (.str s_519 (nat_lit 1457)), (.str s_563 (nat_lit 1460)), (.str s_564 (nat_lit 1463)), (.str s_565 (nat_lit 1466)), (.str s_566 (nat_lit 1469)), (.str s_567 (nat_lit 1472)), (.str s_242 (nat_lit 1475)), (.str s_568 (nat_lit 1478)), (.str s_569 (nat_lit 1481)), (.str s_570 (nat_lit 1484)), (.str s_571 (nat_lit 1487)), (.str s_241 (nat_lit 1490)), (.str s_572 (nat_lit 1493)), (.str s_573 (nat_lit 1496)), (.str s_574 (nat_lit 1499)), (.str s_575 (nat_lit 1502)), (.str s_576 (nat_lit 1505)), (.str s_577 (nat_lit 1508)), (.str s_578 (nat_lit 1511)), (.str s_579 (nat_lit 1514)), (.str s_580 (nat_lit 1517)), (.str s_240 (nat_lit 1520)), (.str s_581 (nat_lit 1523)), (.str s_582 (nat_lit 1526)), (.str s_375 (nat_lit 885)), (.str s_376 (nat_lit 889)), (.str s_377 (nat_lit 893)), (.str s_378 (nat_lit 897)), (.str s_379 (nat_lit 901)), (.str s_380 (nat_lit 905)), (.str s_381 (nat_lit 909)), (.str s_382 (nat_lit 913)), (.str s_383 (nat_lit 917)), (.str s_384 (nat_lit 921)), (.str s_385 (nat_lit 925)), (.str s_386 (nat_lit 929)), (.str s_387 (nat_lit 933)), (.str s_388 (nat_lit 937)), (.str s_389 (nat_lit 941)), (.str s_390 (nat_lit 945)), (.str s_391 (nat_lit 949)), (.str s_392 (nat_lit 953)), (.str s_393 (nat_lit 957)), (.str s_394 (nat_lit 961)), (.str s_395 (nat_lit 965)), (.str s_396 (nat_lit 969)), (.str s_397 (nat_lit 973)), (.str s_398 (nat_lit 977)), (.str s_399 (nat_lit 981)), (.str s_400 (nat_lit 985)), (.str s_401 (nat_lit 989)), (.str s_402 (nat_lit 993)), (.str s_403 (nat_lit 997)), (.str s_404 (nat_lit 1001)), (.str s_405 (nat_lit 1005)), (.str s_406 (nat_lit 1009)), (.str s_407 (nat_lit 1013)), (.str s_408 (nat_lit 1017)), (.str s_409 (nat_lit 1021)), (.str s_410 (nat_lit 1025)), (.str s_411 (nat_lit 1029)), (.str s_412 (nat_lit 1033)), (.str s_413 (nat_lit 1037)), (.str s_414 (nat_lit 1041)), (.str s_415 (nat_lit 1045)), (.str s_416 (nat_lit 1049)), (.str s_417 (nat_lit 1053)), (.str s_418 (nat_lit 1057)), (.str s_419 (nat_lit 1061)), (.str s_420 (nat_lit 1065)), (.str s_421 (nat_lit 1069)), (.str s_422 (nat_lit 1073)), (.str s_423 (nat_lit 1077)), (.str s_424 (nat_lit 1081)), (.str s_425 (nat_lit 1085)), (.str s_426 (nat_lit 1089)), (.str s_427 (nat_lit 1093)), (.str s_428 (nat_lit 1097)), (.str s_429 (nat_lit 1101)), (.str s_430 (nat_lit 1105)), (.str s_431 (nat_lit 1109)), (.str s_432 (nat_lit 1113)), (.str s_433 (nat_lit 1117)), (.str s_434 (nat_lit 1121)), (.str s_435 (nat_lit 1125)), (.str s_436 (nat_lit 1129)), (.str s_437 (nat_lit 1133)), (.str s_438 (nat_lit 1137)), (.str s_439 (nat_lit 1141)), (.str s_440 (nat_lit 1145)), (.str s_441 (nat_lit 1149)), (.str s_442 (nat_lit 1153)), (.str s_443 (nat_lit 1157)), (.str s_444 (nat_lit 1161)), (.str s_445 (nat_lit 1165)), (.str s_446 (nat_lit 1169)), (.str s_447 (nat_lit 1173)), (.str s_448 (nat_lit 1177)), (.str s_449 (nat_lit 1181)), (.str s_450 (nat_lit 1185)), (.str s_451 (nat_lit 1189)), (.str s_452 (nat_lit 1193)), (.str s_453 (nat_lit 1197)), (.str s_454 (nat_lit 1201)), (.str s_455 (nat_lit 1205)), (.str s_456 (nat_lit 1209)), (.str s_457 (nat_lit 1213)), (.str s_458 (nat_lit 1217)), (.str s_459 (nat_lit 1221)), (.str s_460 (nat_lit 1225)), (.str s_461 (nat_lit 1229)), (.str s_462 (nat_lit 1233)), (.str s_463 (nat_lit 1237)), (.str s_464 (nat_lit 1241)), (.str s_465 (nat_lit 1245)), (.str s_466 (nat_lit 1249)), (.str s_467 (nat_lit 1253)), (.str s_468 (nat_lit 1257)), (.str s_469 (nat_lit 1261)), (.str s_470 (nat_lit 1265)), (.str s_471 (nat_lit 1269)), (.str s_472 (nat_lit 1273)), (.str s_473 (nat_lit 1277)), (.str s_474 (nat_lit 1281)), (.str s_475 (nat_lit 1285)), (.str s_476 (nat_lit 1289)), (.str s_477 (nat_lit 1293)), (.str s_478 (nat_lit 1297)), (.str s_479 (nat_lit 1301)), (.str s_480 (nat_lit 1305)), (.str s_481 (nat_lit 1309)), (.str s_482 (nat_lit 1313)), (.str s_483 (nat_lit 1317)), (.str s_484 (nat_lit 1321)), (.str s_485 (nat_lit 1325)), (.str s_486 (nat_lit 1329)), (.str s_487 (nat_lit 1333)), (.str s_488 (nat_lit 1337)), (.str s_489 (nat_lit 1341)), (.str s_490 (nat_lit 1345)), (.str s_491 (nat_lit 1349)), (.str s_492 (nat_lit 1353)), (.str s_493 (nat_lit 1357)), (.str s_494 (nat_lit 1361)), (.str s_495 (nat_lit 1365)), (.str s_496 (nat_lit 1369)), (.str s_497 (nat_lit 1373)), (.str s_498 (nat_lit 1377)), (.str s_499 (nat_lit 1381)), (.str s_500 (nat_lit 1385)), (.str s_501 (nat_lit 1389)), (.str s_502 (nat_lit 1393)), (.str s_503 (nat_lit 1397)), (.str s_504 (nat_lit 1401)), (.str s_505 (nat_lit 1405)), (.str s_506 (nat_lit 1409)), (.str s_507 (nat_lit 1413))]) (nat_lit 0)), (.mk [])⟩
noncomputable def o_78 (P : Params) : Obj := ⟨(.type "dict"), none, (.dict (.mk [⟨(PyData.keyHash P s_0), (.str s_0 (nat_lit 165)), (.str s_508 (nat_lit 1425))⟩, ⟨(PyData.keyHash P s_2), (.str s_2 (nat_lit 166)), .none⟩, ⟨(PyData.keyHash P s_3), (.str s_3 (nat_lit 167)), .none⟩, ⟨(PyData.keyHash P s_4), (.str s_4 (nat_lit 168)), (.builtin "__main__.__loader__#opaque")⟩, ⟨(PyData.keyHash P s_5), (.str s_5 (nat_lit 169)), .none⟩, ⟨(PyData.keyHash P s_173), (.str s_173 (nat_lit 170)), (.ref (nat_lit 6))⟩, ⟨(PyData.keyHash P s_174), (.str s_174 (nat_lit 171)), (.ref (nat_lit 4))⟩, ⟨(PyData.keyHash P s_175), (.str s_175 (nat_lit 173)), (.str s_176 (nat_lit 172))⟩, ⟨(PyData.keyHash P s_177), (.str s_177 (nat_lit 174)), .none⟩, ⟨(PyData.keyHash P s_161), (.str s_161 (nat_lit 275)), (.ref (nat_lit 12))⟩, ⟨(PyData.keyHash P s_228), (.str s_228 (nat_lit 291)), (.ref (nat_lit 38))⟩, ⟨(PyData.keyHash P s_229), (.str s_229 (nat_lit 300)), (.ref (nat_lit 45))⟩, ⟨(PyData.keyHash P s_230), (.str s_230 (nat_lit 309)), (.ref (nat_lit 52))⟩, ⟨(PyData.keyHash P s_231), (.str s_231 (nat_lit 317)), (.ref (nat_lit 59))⟩, ⟨(PyData.keyHash P s_232), (.str s_232 (nat_lit 326)), (.ref (nat_lit 66))⟩, ⟨(PyData.keyHash P s_233), (.str s_233 (nat_lit 338)), (.ref (nat_lit 73))⟩, ⟨(PyData.keyHash P s_234), (.str s_234 (nat_lit 351)), (.ref (nat_lit 80))⟩, ⟨(PyData.keyHash P s_235), (.str s_235 (nat_lit 386)), (.ref (nat_lit 85))⟩, ⟨(PyData.keyHash P s_251), (.str s_251 (nat_lit 1414)), (.ref (nat_lit 88))⟩, ⟨(PyData.keyHash P s_509), (.str s_509 (nat_lit 1415)), (.ref (nat_lit 93))⟩, ⟨(PyData.keyHash P s_510), (.str s_510 (nat_lit 1416)), (.ref (nat_lit 95))⟩, ⟨(PyData.keyHash P s_511), (.str s_511 (nat_lit 1418)), (.str s_512 (nat_lit 1417))⟩, ⟨(PyData.keyHash P s_513), (.str s_513 (nat_lit 1420)), (.str s_514 (nat_lit 1419))⟩, ⟨(PyData.keyHash P s_515), (.str s_515 (nat_lit 1422)), (.str s_516 (nat_lit 1421))⟩, ⟨(PyData.keyHash P s_517), (.str s_517 (nat_lit 1424)), (.str s_518 (nat_lit 1423))⟩, ⟨(PyData.keyHash P s_519), (.str s_519 (nat_lit 1435)), (.int (.ofNat (nat_lit 9)) (nat_lit 1921))⟩]) (nat_lit 26)), (.mk [])⟩
noncomputable def o_79 (_ : Params) : Obj := ⟨(.type "list"), none, (.seq (.mk [(.str s_252 (nat_lit 393)), (.str s_253 (nat_lit 397)), (.str s_254 (nat_lit 401)), (.str s_255 (nat_lit 405)), (.str s_256 (nat_lit 409)), (.str s_257 (nat_lit 413)), (.str s_258 (nat_lit 417)), (.str s_259 (nat_lit 421)), (.str s_260 (nat_lit 425)), (.str s_584 (nat_lit 1923)), (.str s_262 (nat_lit 433)), (.str s_263 (nat_lit 437)), (.str s_264 (nat_lit 441)), (.str s_265 (nat_lit 445)), (.str s_266 (nat_lit 449)), (.str s_267 (nat_lit 453)), (.str s_268 (nat_lit 457)), (.str s_269 (nat_lit 461)), (.str s_270 (nat_lit 465)), (.str s_271 (nat_lit 469)), (.str s_272 (nat_lit 473)), (.str s_273 (nat_lit 477)), (.str s_274 (nat_lit 481)), (.str s_275 (nat_lit 485)), (.str s_276 (nat_lit 489)), (.str s_277 (nat_lit 493)), (.str s_278 (nat_lit 497)), (.str s_279 (nat_lit 501)), (.str s_280 (nat_lit 505)), (.str s_281 (nat_lit 509)), (.str s_282 (nat_lit 513)), (.str s_283 (nat_lit 517)), (.str s_585 (nat_lit 1641)), (.str s_520 (nat_lit 1644)), (.str s_586 (nat_lit 1647)), (.str s_587 (nat_lit 1650)), (.str s_588 (nat_lit 1653)), (.str s_589 (nat_lit 1656)), (.str s_590 (nat_lit 1659)), (.str s_591 (nat_lit 1662)), (.str s_592 (nat_lit 1665)), (.str s_593 (nat_lit 1668)), (.str s_521 (nat_lit 1671)), (.str s_522 (nat_lit 1674)), (.str s_594 (nat_lit 1677)), (.str s_523 (nat_lit 1680)), (.str s_595 (nat_lit 1683)), (.str s_524 (nat_lit 1686)), (.str s_525 (nat_lit 1689)), (.str s_526 (nat_lit 1692)), (.str s_527 (nat_lit 1695)), (.str s_528 (nat_lit 1698)), (.str s_529 (nat_lit 1701)), (.str s_530 (nat_lit 1704)), (.str s_531 (nat_lit 1707)), (.str s_532 (nat_lit 1710)), (.str s_533 (nat_lit 1713)), (.str s_534 (nat_lit 1716)), (.str s_596 (nat_lit 1719)), (.str s_597 (nat_lit 1722)), (.str s_598 (nat_lit 1725)), (.str s_313 (nat_lit 637)), (.str s_599 (nat_lit 1728)), (.str s_600 (nat_lit 1731)), (.str s_601 (nat_lit 1734)), (.str s_535 (nat_lit 1737)), (.str s_536 (nat_lit 1740)), (.str s_537 (nat_lit 1743)), (.str s_538 (nat_lit 1746)), (.str s_539 (nat_lit 1749)), (.str s_540 (nat_lit 1752)), (.str s_541 (nat_lit 1755)), (.str s_542 (nat_lit 1758)), (.str s_543 (nat_lit 1761)), (.str s_544 (nat_lit 1764)), (.str s_545 (nat_lit 1767)), (.str s_546 (nat_lit 1770)), (.str s_547 (nat_lit 1773)), (.str s_548 (nat_lit 1776)), (.str s_549 (nat_lit 1779)), (.str s_550 (nat_lit 1782)), (.str s_551 (nat_lit 1785)), (.str s_552 (nat_lit 1788)), (.str s_553 (nat_lit 1791)), (.str s_554 (nat_lit 1794)), (.str s_555 (nat_lit 1797)), (.str s_556 (nat_lit 1800)), (.str s_557 (nat_lit 1803)), (.str s_558 (nat_lit 1806)), (.str s_559 (nat_lit 1809)), (.str s_560 (nat_lit 1812)), (.str s_602 (nat_lit 1815)), (.str s_603 (nat_lit 1818)), (.str s_604 (nat_lit 1821)), (.str s_605 (nat_lit 1824)), (.str s_583 (nat_lit 1827)), (.str s_606 (nat_lit 1830)), (.str s_561 (nat_lit 1833)), (.str s_562 (nat_lit 1836)), (.str s_519 (nat_lit 1839)), (.str s_563 (nat_lit 1842)), (.str s_564 (nat_lit 1845)), (.str s_565 (nat_lit 1848)), (.str s_566 (nat_lit 1851)), (.str s_567 (nat_lit 1854)), (.str s_242 (nat_lit 1857)), (.str s_568 (nat_lit 1860)), (.str s_569 (nat_lit 1863)), (.str s_570 (nat_lit 1866)), (.str s_571 (nat_lit 1869)), (.str s_241 (nat_lit 1872)), (.str s_572 (nat_lit 1875)), (.str s_573 (nat_lit 1878)), (.str s_574 (nat_lit 1881)), (.str s_575 (nat_lit 1884)), (.str s_576 (nat_lit 1887)), (.str s_577 (nat_lit 1890)), (.str s_578 (nat_lit 1893)), (.str s_579 (nat_lit 1896)), (.str s_580 (nat_lit 1899)), (.str s_240 (nat_lit 1902)), (.str s_581 (nat_lit 1905)), (.str s_582 (nat_lit 1908)), (.str s_607 (nat_lit 1911)), (.str s_608 (nat_lit 1914)), (.str s_609 (nat_lit 1917)), (.str s_610 (nat_lit 1920)), (.str s_379 (nat_lit 901)), (.str s_380 (nat_lit 905)), (.str s_381 (nat_lit 909)), (.str s_382 (nat_lit 913)), (.str s_383 (nat_lit 917)), (.str s_384 (nat_lit 921)), (.str s_385 (nat_lit 925)), (.str s_386 (nat_lit 929)), (.str s_387 (nat_lit 933)), (.str s_388 (nat_lit 937)), (.str s_389 (nat_lit 941)), (.str s_390 (nat_lit 945)), (.str s_391 (nat_lit 949)), (.str s_392 (nat_lit 953)), (.str s_393 (nat_lit 957)), (.str s_394 (nat_lit 961)), (.str s_395 (nat_lit 965)), (.str s_396 (nat_lit 969)), (.str s_397 (nat_lit 973)), (.str s_398 (nat_lit 977)), (.str s_399 (nat_lit 981)), (.str s_400 (nat_lit 985)), (.str s_401 (nat_lit 989)), (.str s_402 (nat_lit 993)), (.str s_403 (nat_lit 997)), (.str s_404 (nat_lit 1001)), (.str s_405 (nat_lit 1005)), (.str s_406 (nat_lit 1009)), (.str s_407 (nat_lit 1013)), (.str s_408 (nat_lit 1017)), (.str s_409 (nat_lit 1021)), (.str s_410 (nat_lit 1025)), (.str s_411 (nat_lit 1029)), (.str s_412 (nat_lit 1033)), (.str s_413 (nat_lit 1037)), (.str s_414 (nat_lit 1041)), (.str s_415 (nat_lit 1045)), (.str s_416 (nat_lit 1049)), (.str s_417 (nat_lit 1053)), (.str s_418 (nat_lit 1057)), (.str s_419 (nat_lit 1061)), (.str s_420 (nat_lit 1065)), (.str s_421 (nat_lit 1069)), (.str s_422 (nat_lit 1073)), (.str s_423 (nat_lit 1077)), (.str s_424 (nat_lit 1081)), (.str s_425 (nat_lit 1085)), (.str s_426 (nat_lit 1089)), (.str s_427 (nat_lit 1093)), (.str s_428 (nat_lit 1097)), (.str s_429 (nat_lit 1101)), (.str s_430 (nat_lit 1105)), (.str s_431 (nat_lit 1109)), (.str s_432 (nat_lit 1113)), (.str s_433 (nat_lit 1117)), (.str s_434 (nat_lit 1121)), (.str s_435 (nat_lit 1125)), (.str s_436 (nat_lit 1129)), (.str s_437 (nat_lit 1133)), (.str s_438 (nat_lit 1137)), (.str s_439 (nat_lit 1141)), (.str s_440 (nat_lit 1145)), (.str s_441 (nat_lit 1149)), (.str s_442 (nat_lit 1153)), (.str s_443 (nat_lit 1157)), (.str s_444 (nat_lit 1161)), (.str s_445 (nat_lit 1165)), (.str s_446 (nat_lit 1169)), (.str s_447 (nat_lit 1173)), (.str s_448 (nat_lit 1177)), (.str s_449 (nat_lit 1181)), (.str s_450 (nat_lit 1185)), (.str s_451 (nat_lit 1189)), (.str s_452 (nat_lit 1193)), (.str s_453 (nat_lit 1197)), (.str s_454 (nat_lit 1201)), (.str s_455 (nat_lit 1205)), (.str s_456 (nat_lit 1209)), (.str s_457 (nat_lit 1213)), (.str s_458 (nat_lit 1217)), (.str s_459 (nat_lit 1221)), (.str s_460 (nat_lit 1225)), (.str s_461 (nat_lit 1229)), (.str s_462 (nat_lit 1233)), (.str s_463 (nat_lit 1237)), (.str s_464 (nat_lit 1241)), (.str s_465 (nat_lit 1245)), (.str s_466 (nat_lit 1249)), (.str s_467 (nat_lit 1253)), (.str s_468 (nat_lit 1257)), (.str s_469 (nat_lit 1261)), (.str s_470 (nat_lit 1265)), (.str s_471 (nat_lit 1269)), (.str s_472 (nat_lit 1273)), (.str s_473 (nat_lit 1277)), (.str s_474 (nat_lit 1281)), (.str s_475 (nat_lit 1285)), (.str s_476 (nat_lit 1289)), (.str s_477 (nat_lit 1293)), (.str s_478 (nat_lit 1297)), (.str s_479 (nat_lit 1301)), (.str s_480 (nat_lit 1305)), (.str s_481 (nat_lit 1309)), (.str s_482 (nat_lit 1313)), (.str s_483 (nat_lit 1317)), (.str s_484 (nat_lit 1321)), (.str s_485 (nat_lit 1325)), (.str s_486 (nat_lit 1329)), (.str s_487 (nat_lit 1333)), (.str s_488 (nat_lit 1337)), (.str s_489 (nat_lit 1341)), (.str s_490 (nat_lit 1345)), (.str s_491 (nat_lit 1349)), (.str s_492 (nat_lit 1353)), (.str s_493 (nat_lit 1357)), (.str s_494 (nat_lit 1361)), (.str s_495 (nat_lit 1365)), (.str s_496 (nat_lit 1369)), (.str s_497 (nat_lit 1373)), (.str s_498 (nat_lit 1377)), (.str s_499 (nat_lit 1381)), (.str s_500 (nat_lit 1385)), (.str s_501 (nat_lit 1389)), (.str s_502 (nat_lit 1393)), (.str s_503 (nat_lit 1397)), (.str s_504 (nat_lit 1401)), (.str s_505 (nat_lit 1405)), (.str s_506 (nat_lit 1409)), (.str s_507 (nat_lit 1413))]) (nat_lit 0)), (.mk [])⟩
noncomputable def o_80 (_ : Params) : Obj := ⟨(.type "bytes_iterator"), none, (.fields (.mk [.none, (.int (.ofNat (nat_lit 95)) (nat_lit 0))])), (.mk [])⟩
noncomputable def o_81 (_ : Params) : Obj := ⟨(.type "StopIteration"), none, (.fields (.mk [(.ref (nat_lit 100)), .none, .none, .none, (.bool false), .none])), (.mk [])⟩
noncomputable def o_82 (P : Params) : Obj := ⟨(.type "dict"), none, (.dict (.mk [⟨(PyData.keyHash P s_0), (.str s_0 (nat_lit 165)), (.str s_611 (nat_lit 1964))⟩, ⟨(PyData.keyHash P s_2), (.str s_2 (nat_lit 166)), .none⟩, ⟨(PyData.keyHash P s_3), (.str s_3 (nat_lit 167)), .none⟩, ⟨(PyData.keyHash P s_4), (.str s_4 (nat_lit 168)), (.builtin "__main__.__loader__#opaque")⟩, ⟨(PyData.keyHash P s_5), (.str s_5 (nat_lit 169)), .none⟩, ⟨(PyData.keyHash P s_173), (.str s_173 (nat_lit 170)), (.ref (nat_lit 6))⟩, ⟨(PyData.keyHash P s_174), (.str s_174 (nat_lit 171)), (.ref (nat_lit 4))⟩, ⟨(PyData.keyHash P s_175), (.str s_175 (nat_lit 173)), (.str s_176 (nat_lit 172))⟩, ⟨(PyData.keyHash P s_177), (.str s_177 (nat_lit 174)), .none⟩, ⟨(PyData.keyHash P s_161), (.str s_161 (nat_lit 275)), (.ref (nat_lit 12))⟩, ⟨(PyData.keyHash P s_228), (.str s_228 (nat_lit 291)), (.ref (nat_lit 38))⟩, ⟨(PyData.keyHash P s_229), (.str s_229 (nat_lit 300)), (.ref (nat_lit 45))⟩, ⟨(PyData.keyHash P s_230), (.str s_230 (nat_lit 309)), (.ref (nat_lit 52))⟩, ⟨(PyData.keyHash P s_231), (.str s_231 (nat_lit 317)), (.ref (nat_lit 59))⟩, ⟨(PyData.keyHash P s_232), (.str s_232 (nat_lit 326)), (.ref (nat_lit 66))⟩, ⟨(PyData.keyHash P s_233), (.str s_233 (nat_lit 338)), (.ref (nat_lit 73))⟩, ⟨(PyData.keyHash P s_234), (.str s_234 (nat_lit 351)), (.ref (nat_lit 80))⟩, ⟨(PyData.keyHash P s_235), (.str s_235 (nat_lit 386)), (.ref (nat_lit 85))⟩, ⟨(PyData.keyHash P s_251), (.str s_251 (nat_lit 1414)), (.ref (nat_lit 88))⟩, ⟨(PyData.keyHash P s_509), (.str s_509 (nat_lit 1415)), (.ref (nat_lit 93))⟩, ⟨(PyData.keyHash P s_510), (.str s_510 (nat_lit 1416)), (.ref (nat_lit 95))⟩, ⟨(PyData.keyHash P s_511), (.str s_511 (nat_lit 1418)), (.str s_512 (nat_lit 1417))⟩, ⟨(PyData.keyHash P s_513), (.str s_513 (nat_lit 1420)), (.str s_514 (nat_lit 1419))⟩, ⟨(PyData.keyHash P s_515), (.str s_515 (nat_lit 1422)), (.str s_516 (nat_lit 1421))⟩, ⟨(PyData.keyHash P s_517), (.str s_517 (nat_lit 1424)), (.str s_518 (nat_lit 1423))⟩, ⟨(PyData.keyHash P s_612), (.str s_612 (nat_lit 1930)), (.ref (nat_lit 108))⟩, ⟨(PyData.keyHash P s_613), (.str s_613 (nat_lit 1940)), (.ref (nat_lit 116))⟩, ⟨(PyData.keyHash P s_614), (.str s_614 (nat_lit 1941)), (.ref (nat_lit 118))⟩, ⟨(PyData.keyHash P s_615), (.str s_615 (nat_lit 1956)), (.ref (nat_lit 128))⟩, ⟨(PyData.keyHash P s_616), (.str s_616 (nat_lit 1963)), (.ref (nat_lit 135))⟩, ⟨(PyData.keyHash P s_617), (.str s_617 (nat_lit 1975)), (.ref (nat_lit 142))⟩, ⟨(PyData.keyHash P s_618), (.str s_618 (nat_lit 1982)), (.ref (nat_lit 149))⟩, ⟨(PyData.keyHash P s_619), (.str s_619 (nat_lit 1993)), (.ref (nat_lit 156))⟩]) (nat_lit 35)), (.mk [])⟩
noncomputable def o_83 (_ : Params) : Obj := ⟨.none, none, (.fields (.mk [(.int (.ofNat (nat_lit 3)) (nat_lit 0)), (.int (.ofNat (nat_lit 0)) (nat_lit 0)), (.ref (nat_lit 37)), (.int (.ofNat (nat_lit 6)) (nat_lit 0)), (.int (.ofNat (nat_lit 0)) (nat_lit 0)), (.ref (nat_lit 44)), (.int (.ofNat (nat_lit 14)) (nat_lit 0)), (.int (.ofNat (nat_lit 0)) (nat_lit 0)), (.ref (nat_lit 51)), (.int (.ofNat (nat_lit 19)) (nat_lit 0)), (.int (.ofNat (nat_lit 0)) (nat_lit 0)), (.ref (nat_lit 58)), (.int (.ofNat (nat_lit 24)) (nat_lit 0)), (.int (.ofNat (nat_lit 0)) (nat_lit 0)), (.ref (nat_lit 65)), (.int (.ofNat (nat_lit 28)) (nat_lit 0)), (.int (.ofNat (nat_lit 0)) (nat_lit 0)), (.ref (nat_lit 72)), (.int (.ofNat (nat_lit 39)) (nat_lit 0)), (.int (.ofNat (nat_lit 0)) (nat_lit 0)), (.ref (nat_lit 79)), (.int (.ofNat (nat_lit 67)) (nat_lit 0)), (.int (.ofNat (nat_lit 0)) (nat_lit 0)), (.ref (nat_lit 107)), (.int (.ofNat (nat_lit 69)) (nat_lit 0)), (.int (.ofNat (nat_lit 0)) (nat_lit 0)), (.ref (nat_lit 115)), (.int (.ofNat (nat_lit 78)) (nat_lit 0)), (.int (.ofNat (nat_lit 0)) (nat_lit 0)), (.ref (nat_lit 127)), (.int (.ofNat (nat_lit 81)) (nat_lit 0)), (.int (.ofNat (nat_lit 0)) (nat_lit 0)), (.ref (nat_lit 134)), (.int (.ofNat (nat_lit 85)) (nat_lit 0)), (.int (.ofNat (nat_lit 0)) (nat_lit 0)), (.ref (nat_lit 141)), (.int (.ofNat (nat_lit 93)) (nat_lit 0)), (.int (.ofNat (nat_lit 0)) (nat_lit 0)), (.ref (nat_lit 148)), (.int (.ofNat (nat_lit 95)) (nat_lit 0)), (.int (.ofNat (nat_lit 0)) (nat_lit 0)), (.ref (nat_lit 155))])), (.mk [])⟩
noncomputable def o_84 (_ : Params) : Obj := ⟨(.type "tuple"), none, (.seq (.mk [(.str s_576 (nat_lit 1927))]) (nat_lit 0)), (.mk [])⟩
noncomputable def o_85 (_ : Params) : Obj := ⟨.none, none, (.func ⟨s_612, s_612, (fA (qs 20)), .stmts (fB (qs 20)), (fC (qs 20)), (nat_lit 0), [], .none, .none, .none, .none, none, .none, .none, (nat_lit 0)⟩), (.mk [])⟩
noncomputable def o_86 (_ : Params) : Obj := ⟨(.type "code"), none, (.fields (.mk [(.str s_612 (nat_lit 1924)), (.str s_612 (nat_lit 1925)), (.str s_176 (nat_lit 1926)), (.int (.ofNat (nat_lit 67)) (nat_lit 0)), (.int (.ofNat (nat_lit 1)) (nat_lit 0)), (.int (.ofNat (nat_lit 0)) (nat_lit 0)), (.int (.ofNat (nat_lit 0)) (nat_lit 0)), (.int (.ofNat (nat_lit 3)) (nat_lit 0)), (.ref (nat_lit 102)), (.bool true), (.int (.ofNat (nat_lit 276)) (nat_lit 0)), (.ref (nat_lit 103)), .none, (.ref (nat_lit 104)), (.ref (nat_lit 105)), (.ref (nat_lit 106)), (.int (.ofNat (nat_lit 1928)) (nat_lit 0)), (.int (.ofNat (nat_lit 67)) (nat_lit 0)), (.str s_176 (nat_lit 1929))])), (.mk [])⟩
noncomputable def o_87 (_ : Params) : Obj := ⟨(.type "function"), none, (.func ⟨s_612, s_612, (fA (qs 20)), .stmts (fB (qs 20)), (fC (qs 20)), (nat_lit 3), [], .none, .none, .none, (.str s_508 (nat_lit 1425)), none, (.ref (nat_lit 107)), .none, (nat_lit 0)⟩), (.mk [])⟩
noncomputable def o_88 (_ : Params) : Obj := ⟨(.type "tuple"), none, (.seq (.mk [(.str s_620 (nat_lit 1931))]) (nat_lit 0)), (.mk [])⟩
noncomputable def o_89 (_ : Params) : Obj := ⟨(.type "tuple"), none, (.seq (.mk [(.str s_621 (nat_lit 1935)), (.str s_622 (nat_lit 1936)), (.str s_623 (nat_lit 1937))]) (nat_lit 0)), (.mk [])⟩
noncomputable def o_90 (_ : Params) : Obj := ⟨.none, none, (.func ⟨s_613, s_613, (fA (qs 21)), .stmts (fB (qs 21)), (fC (qs 21)), (nat_lit 0), [], .none, .none, .none, .none, none, .none, .none, (nat_lit 0)⟩), (.mk [])⟩
noncomputable def o_91 (_ : Params) : Obj := ⟨(.type "code"), none, (.fields (.mk [(.str s_613 (nat_lit 1932)), (.str s_613 (nat_lit 1933)), (.str s_176 (nat_lit 1934)), (.int (.ofNat (nat_lit 69)) (nat_lit 0)), (.int (.ofNat (nat_lit 2)) (nat_lit 0)), (.int (.ofNat (nat_lit 0)) (nat_lit 0)), (.int (.ofNat (nat_lit 0)) (nat_lit 0)), (.int (.ofNat (nat_lit 3)) (nat_lit 0)), (.ref (nat_lit 110)), (.bool true), (.int (.ofNat (nat_lit 276)) (nat_lit 0)), (.ref (nat_lit 111)), .none, (.ref (nat_lit 112)), (.ref (nat_lit 113)), (.ref (nat_lit 114)), (.int (.ofNat (nat_lit 1938)) (nat_lit 0)), (.int (.ofNat (nat_lit 69)) (nat_lit 0)), (.str s_176 (nat_lit 1939))])), (.mk [])⟩
noncomputable def o_92 (_ : Params) : Obj := ⟨(.type "function"), none, (.func ⟨s_613, s_613, (fA (qs 21)), .stmts (fB (qs 21)), (fC (qs 21)), (nat_lit 3), [], (.ref (nat_lit 109)), .none, .none, (.str s_508 (nat_lit 1425)), none, (.ref (nat_lit 115)), .none, (nat_lit 0)⟩), (.mk [])⟩
noncomputable def o_93 (_ : Params) : Obj := ⟨(.type "list"), none, (.seq (.mk [(.str s_252 (nat_lit 393)), (.str s_253 (nat_lit 397)), (.str s_254 (nat_lit 401)), (.str s_255 (nat_lit 405)), (.str s_256 (nat_lit 409)), (.str s_257 (nat_lit 413)), (.str s_258 (nat_lit 417)), (.str s_259 (nat_lit 421)), (.str s_260 (nat_lit 425)), (.str s_584 (nat_lit 1923)), (.str s_624 (nat_lit 1948)), (.str s_263 (nat_lit 437)), (.str s_264 (nat_lit 441)), (.str s_625 (nat_lit 1945)), (.str s_266 (nat_lit 449)), (.str s_267 (nat_lit 453)), (.str s_268 (nat_lit 457)), (.str s_269 (nat_lit 461)), (.str s_270 (nat_lit 465)), (.str s_271 (nat_lit 469)), (.str s_272 (nat_lit 473)), (.str s_273 (nat_lit 477)), (.str s_274 (nat_lit 481)), (.str s_275 (nat_lit 485)), (.str s_276 (nat_lit 489)), (.str s_277 (nat_lit 493)), (.str s_278 (nat_lit 497)), (.str s_279 (nat_lit 501)), (.str s_280 (nat_lit 505)), (.str s_281 (nat_lit 509)), (.str s_282 (nat_lit 513)), (.str s_283 (nat_lit 517)), (.str s_585 (nat_lit 1641)), (.str s_520 (nat_lit 1644)), (.str s_586 (nat_lit 1647)), (.str s_587 (nat_lit 1650)), (.str s_588 (nat_lit 1653)), (.str s_589 (nat_lit 1656)), (.str s_590 (nat_lit 1659)), (.str s_591 (nat_lit 1662)), (.str s_592 (nat_lit 1665)), (.str s_593 (nat_lit 1668)), (.str s_521 (nat_lit 1671)), (.str s_522 (nat_lit 1674)), (.str s_594 (nat_lit 1677)), (.str s_523 (nat_lit 1680)), (.str s_595 (nat_lit 1683)), (.str s_524 (nat_lit 1686)), (.str s_525 (nat_lit 1689)), (.str s_526 (nat_lit 1692)), (.str s_527 (nat_lit 1695)), (.str s_528 (nat_lit 1698)), (.str s_529 (nat_lit 1701)), (.str s_530 (nat_lit 1704)), (.str s_531 (nat_lit 1707)), (.str s_532 (nat_lit 1710)), (.str s_533 (nat_lit 1713)), (.str s_534 (nat_lit 1716)), (.str s_596 (nat_lit 1719)), (.str s_597 (nat_lit 1722)), (.str s_598 (nat_lit 1725)), (.str s_313 (nat_lit 637)), (.str s_599 (nat_lit 1728)), (.str s_600 (nat_lit 1731)), (.str s_601 (nat_lit 1734)), (.str s_535 (nat_lit 1737)), (.str s_536 (nat_lit 1740)), (.str s_537 (nat_lit 1743)), (.str s_538 (nat_lit 1746)), (.str s_539 (nat_lit 1749)), (.str s_540 (nat_lit 1752)), (.str s_541 (nat_lit 1755)), (.str s_542 (nat_lit 1758)), (.str s_543 (nat_lit 1761)), (.str s_544 (nat_lit 1764)), (.str s_545 (nat_lit 1767)), (.str s_546 (nat_lit 1770)), (.str s_547 (nat_lit 1773)), (.str s_548 (nat_lit 1776)), (.str s_549 (nat_lit 1779)), (.str s_550 (nat_lit 1782)), (.str s_551 (nat_lit 1785)), (.str s_552 (nat_lit 1788)), (.str s_553 (nat_lit 1791)), (.str s_554 (nat_lit 1794)), (.str s_555 (nat_lit 1797)), (.str s_556 (nat_lit 1800)), (.str s_557 (nat_lit 1803)), (.str s_558 (nat_lit 1806)), (.str s_559 (nat_lit 1809)), (.str s_560 (nat_lit 1812)), (.str s_602 (nat_lit 1815)), (.str s_603 (nat_lit 1818)), (.str s_604 (nat_lit 1821)), (.str s_605 (nat_lit 1824)), (.str s_583 (nat_lit 1827)), (.str s_606 (nat_lit 1830)), (.str s_561 (nat_lit 1833)), (.str s_562 (nat_lit 1836)), (.str s_519 (nat_lit 1839)), (.str s_563 (nat_lit 1842)), (.str s_564 (nat_lit 1845)), (.str s_565 (nat_lit 1848)), (.str s_566 (nat_lit 1851)), (.str s_567 (nat_lit 1854)), (.str s_242 (nat_lit 1857)), (.str s_568 (nat_lit 1860)), (.str s_569 (nat_lit 1863)), (.str s_570 (nat_lit 1866)), (.str s_571 (nat_lit 1869)), (.str s_241 (nat_lit 1872)), (.str s_572 (nat_lit 1875)), (.str s_573 (nat_lit 1878)), (.str s_574 (nat_lit 1881)), (.str s_575 (nat_lit 1884)), (.str s_576 (nat_lit 1887)), (.str s_577 (nat_lit 1890)), (.str s_578 (nat_lit 1893)), (.str s_579 (nat_lit 1896)), (.str s_580 (nat_lit 1899)), (.str s_240 (nat_lit 1902)), (.str s_581 (nat_lit 1905)), (.str s_582 (nat_lit 1908)), (.str s_607 (nat_lit 1911)), (.str s_608 (nat_lit 1914)), (.str s_609 (nat_lit 1917)), (.str s_610 (nat_lit 1920)), (.str s_379 (nat_lit 901)), (.str s_380 (nat_lit 905)), (.str s_381 (nat_lit 909)), (.str s_382 (nat_lit 913)), (.str s_383 (nat_lit 917)), (.str s_384 (nat_lit 921)), (.str s_385 (nat_lit 925)), (.str s_386 (nat_lit 929)), (.str s_387 (nat_lit 933)), (.str s_388 (nat_lit 937)), (.str s_389 (nat_lit 941)), (.str s_390 (nat_lit 945)), (.str s_391 (nat_lit 949)), (.str s_392 (nat_lit 953)), (.str s_393 (nat_lit 957)), (.str s_394 (nat_lit 961)), (.str s_395 (nat_lit 965)), (.str s_396 (nat_lit 969)), (.str s_397 (nat_lit 973)), (.str s_398 (nat_lit 977)), (.str s_399 (nat_lit 981)), (.str s_400 (nat_lit 985)), (.str s_401 (nat_lit 989)), (.str s_402 (nat_lit 993)), (.str s_403 (nat_lit 997)), (.str s_404 (nat_lit 1001)), (.str s_405 (nat_lit 1005)), (.str s_406 (nat_lit 1009)), (.str s_407 (nat_lit 1013)), (.str s_408 (nat_lit 1017)), (.str s_409 (nat_lit 1021)), (.str s_410 (nat_lit 1025)), (.str s_411 (nat_lit 1029)), (.str s_412 (nat_lit 1033)), (.str s_413 (nat_lit 1037)), (.str s_414 (nat_lit 1041)), (.str s_415 (nat_lit 1045)), (.str s_416 (nat_lit 1049)), (.str s_417 (nat_lit 1053)), (.str s_418 (nat_lit 1057)), (.str s_419 (nat_lit 1061)), (.str s_420 (nat_lit 1065)), (.str s_421 (nat_lit 1069)), (.str s_422 (nat_lit 1073)), (.str s_423 (nat_lit 1077)), (.str s_424 (nat_lit 1081)), (.str s_425 (nat_lit 1085)), (.str s_426 (nat_lit 1089)), (.str s_427 (nat_lit 1093)), (.str s_428 (nat_lit 1097)), (.str s_429 (nat_lit 1101)), (.str s_430 (nat_lit 1105)), (.str s_431 (nat_lit 1109)), (.str s_432 (nat_lit 1113)), (.str s_433 (nat_lit 1117)), (.str s_434 (nat_lit 1121)), (.str s_435 (nat_lit 1125)), (.str s_436 (nat_lit 1129)), (.str s_437 (nat_lit 1133)), (.str s_438 (nat_lit 1137)), (.str s_439 (nat_lit 1141)), (.str s_440 (nat_lit 1145)), (.str s_441 (nat_lit 1149)), (.str s_442 (nat_lit 1153)), (.str s_443 (nat_lit 1157)), (.str s_444 (nat_lit 1161)), (.str s_445 (nat_lit 1165)), (.str s_446 (nat_lit 1169)), (.str s_447 (nat_lit 1173)), (.str s_448 (nat_lit 1177)), (.str s_449 (nat_lit 1181)), (.str s_450 (nat_lit 1185)), (.str s_451 (nat_lit 1189)), (.str s_452 (nat_lit 1193)), (.str s_453 (nat_lit 1197)), (.str s_454 (nat_lit 1201)), (.str s_455 (nat_lit 1205)), (.str s_456 (nat_lit 1209)), (.str s_457 (nat_lit 1213)), (.str s_458 (nat_lit 1217)), (.str s_459 (nat_lit 1221)), (.str s_460 (nat_lit 1225)), (.str s_461 (nat_lit 1229)), (.str s_462 (nat_lit 1233)), (.str s_463 (nat_lit 1237)), (.str s_464 (nat_lit 1241)), (.str s_465 (nat_lit 1245)), (.str s_466 (nat_lit 1249)), (.str s_467 (nat_lit 1253)), (.str s_468 (nat_lit 1257)), (.str s_469 (nat_lit 1261)), (.str s_470 (nat_lit 1265)), (.str s_471 (nat_lit 1269)), (.str s_472 (nat_lit 1273)), (.str s_473 (nat_lit 1277)), (.str s_474 (nat_lit 1281)), (.str s_475 (nat_lit 1285)), (.str s_476 (nat_lit 1289)), (.str s_477 (nat_lit 1293)), (.str s_478 (nat_lit 1297)), (.str s_479 (nat_lit 1301)), (.str s_480 (nat_lit 1305)), (.str s_481 (nat_lit 1309)), (.str s_482 (nat_lit 1313)), (.str s_483 (nat_lit 1317)), (.str s_484 (nat_lit 1321)), (.str s_485 (nat_lit 1325)), (.str s_486 (nat_lit 1329)), (.str s_487 (nat_lit 1333)), (.str s_488 (nat_lit 1337)), (.str s_489 (nat_lit 1341)), (.str s_490 (nat_lit 1345)), (.str s_491 (nat_lit 1349)), (.str s_492 (nat_lit 1353)), (.str s_493 (nat_lit 1357)), (.str s_494 (nat_lit 1361)), (.str s_495 (nat_lit 1365)), (.str s_496 (nat_lit 1369)), (.str s_497 (nat_lit 1373)), (.str s_498 (nat_lit 1377)), (.str s_499 (nat_lit 1381)), (.str s_500 (nat_lit 1385)), (.str s_501 (nat_lit 1389)), (.str s_502 (nat_lit 1393)), (.str s_503 (nat_lit 1397)), (.str s_504 (nat_lit 1401)), (.str s_505 (nat_lit 1405)), (.str s_506 (nat_lit 1409)), (.str s_507 (nat_lit 1413))]) (nat_lit 0)), (.mk [])⟩
noncomputable def o_94 (_ : Params) : Obj := ⟨(.type "bytes_iterator"), none, (.fields (.mk [.none, (.int (.ofNat (nat_lit 2)) (nat_lit 0))])), (.mk [])⟩
noncomputable def o_95 (_ : Params) : Obj := ⟨(.type "StopIteration"), none, (.fields (.mk [(.ref (nat_lit 120)), .none, .none, .none, (.bool false), .none])), (.mk [])⟩
noncomputable def o_96 (_ : Params) : Obj := ⟨(.type "tuple"), none, (.seq (.mk [(.str s_626 (nat_lit 1952)), (.str s_576 (nat_lit 1953))]) (nat_lit 0)), (.mk [])⟩
noncomputable def o_97 (_ : Params) : Obj := ⟨.none, none, (.func ⟨s_615, s_615, (fA (qs 25)), .stmts (fB (qs 25)), (fC (qs 25)), (nat_lit 0), [], .none, .none, .none, .none, none, .none, .none, (nat_lit 0)⟩), (.mk [])⟩
noncomputable def o_98 (_ : Params) : Obj := ⟨(.type "code"), none, (.fields (.mk [(.str s_615 (nat_lit 1949)), (.str s_615 (nat_lit 1950)), (.str s_176 (nat_lit 1951)), (.int (.ofNat (nat_lit 78)) (nat_lit 0)), (.int (.ofNat (nat_lit 1)) (nat_lit 0)), (.int (.ofNat (nat_lit 0)) (nat_lit 0)), (.int (.ofNat (nat_lit 0)) (nat_lit 0)), (.int (.ofNat (nat_lit 3)) (nat_lit 0)), (.ref (nat_lit 122)), (.bool true), (.int (.ofNat (nat_lit 276)) (nat_lit 0)), (.ref (nat_lit 123)), .none, (.ref (nat_lit 124)), (.ref (nat_lit 125)), (.ref (nat_lit 126)), (.int (.ofNat (nat_lit 1954)) (nat_lit 0)), (.int (.ofNat (nat_lit 78)) (nat_lit 0)), (.str s_176 (nat_lit 1955))])), (.mk [])⟩
noncomputable def o_99 (_ : Params) : Obj := ⟨(.type "function"), none, (.func ⟨s_615, s_615, (fA (qs 25)), .stmts (fB (qs 25)), (fC (qs 25)), (nat_lit 3), [], .none, .none, .none, (.str s_508 (nat_lit 1425)), none, (.ref (nat_lit 127)), .none, (nat_lit 0)⟩), (.mk [])⟩
noncomputable def o_100 (_ : Params) : Obj := ⟨(.type "tuple"), none, (.seq (.mk [(.str s_576 (nat_lit 1960))]) (nat_lit 0)), (.mk [])⟩
noncomputable def o_101 (_ : Params) : Obj := ⟨.none, none, (.func ⟨s_616, s_616, (fA (qs 26)), .stmts (fB (qs 26)), (fC (qs 26)), (nat_lit 0), [], .none, .none, .none, .none, none, .none, .none, (nat_lit 0)⟩), (.mk [])⟩
noncomputable def o_102 (_ : Params) : Obj := ⟨(.type "code"), none, (.fields (.mk [(.str s_616 (nat_lit 1957)), (.str s_616 (nat_lit 1958)), (.str s_176 (nat_lit 1959)), (.int (.ofNat (nat_lit 81)) (nat_lit 0)), (.int (.ofNat (nat_lit 1)) (nat_lit 0)), (.int (.ofNat (nat_lit 0)) (nat_lit 0)), (.int (.ofNat (nat_lit 0)) (nat_lit 0)), (.int (.ofNat (nat_lit 3)) (nat_lit 0)), (.ref (nat_lit 129)), (.bool true), (.int (.ofNat (nat_lit 276)) (nat_lit 0)), (.ref (nat_lit 130)), .none, (.ref (nat_lit 131)), (.ref (nat_lit 132)), (.ref (nat_lit 133)), (.int (.ofNat (nat_lit 1961)) (nat_lit 0)), (.int (.ofNat (nat_lit 81)) (nat_lit 0)), (.str s_176 (nat_lit 1962))])), (.mk [])⟩
noncomputable def o_103 (_ : Params) : Obj := ⟨(.type "function"), none, (.func ⟨s_616, s_616, (fA (qs 26)), .stmts (fB (qs 26)), (fC (qs 26)), (nat_lit 3), [], .none, .none, .none, (.str s_508 (nat_lit 1425)), none, (.ref (nat_lit 134)), .none, (nat_lit 0)⟩), (.mk [])⟩
noncomputable def o_104 (_ : Params) : Obj := ⟨(.type "tuple"), none, (.seq (.mk [(.str s_627 (nat_lit 1969)), (.str s_628 (nat_lit 1970)), (.str s_629 (nat_lit 1971)), (.str s_630 (nat_lit 1972))]) (nat_lit 0)), (.mk [])⟩
noncomputable def o_105 (_ : Params) : Obj := ⟨.none, none, (.func ⟨s_617, s_617, (fA (qs 28)), .stmts (fB (qs 28)), (fC (qs 28)), (nat_lit 0), [], .none, .none, .none, .none, none, .none, .none, (nat_lit 0)⟩), (.mk [])⟩
noncomputable def o_106 (_ : Params) : Obj := ⟨(.type "code"), none, (.fields (.mk [(.str s_617 (nat_lit 1966)), (.str s_617 (nat_lit 1967)), (.str s_176 (nat_lit 1968)), (.int (.ofNat (nat_lit 85)) (nat_lit 0)), (.int (.ofNat (nat_lit 1)) (nat_lit 0)), (.int (.ofNat (nat_lit 0)) (nat_lit 0)), (.int (.ofNat (nat_lit 0)) (nat_lit 0)), (.int (.ofNat (nat_lit 3)) (nat_lit 0)), (.ref (nat_lit 136)), (.bool true), (.int (.ofNat (nat_lit 276)) (nat_lit 0)), (.ref (nat_lit 137)), .none, (.ref (nat_lit 138)), (.ref (nat_lit 139)), (.ref (nat_lit 140)), (.int (.ofNat (nat_lit 1973)) (nat_lit 0)), (.int (.ofNat (nat_lit 85)) (nat_lit 0)), (.str s_176 (nat_lit 1974))])), (.mk [])⟩
noncomputable def o_107 (_ : Params) : Obj := ⟨(.type "function"), none, (.func ⟨s_617, s_617, (fA (qs 28)), .stmts (fB (qs 28)), (fC (qs 28)), (nat_lit 3), [], .none, .none, .none, (.str s_611 (nat_lit 1964)), none, (.ref (nat_lit 141)), .none, (nat_lit 0)⟩), (.mk [])⟩
noncomputable def o_108 (_ : Params) : Obj := ⟨(.type "tuple"), none, (.seq (.mk [(.str s_631 (nat_lit 1979))]) (nat_lit 0)), (.mk [])⟩
noncomputable def o_109 (_ : Params) : Obj := ⟨.none, none, (.func ⟨s_618, s_618, (fA (qs 29)), .stmts (fB (qs 29)), (fC (qs 29)), (nat_lit 0), [], .none, .none, .none, .none, none, .none, .none, (nat_lit 0)⟩), (.mk [])⟩
noncomputable def o_110 (_ : Params) : Obj := ⟨(.type "code"), none, (.fields (.mk [(.str s_618 (nat_lit 1976)), (.str s_618 (nat_lit 1977)), (.str s_176 (nat_lit 1978)), (.int (.ofNat (nat_lit 93)) (nat_lit 0)), (.int (.ofNat (nat_lit 1)) (nat_lit 0)), (.int (.ofNat (nat_lit 0)) (nat_lit 0)), (.int (.ofNat (nat_lit 0)) (nat_lit 0)), (.int (.ofNat (nat_lit 3)) (nat_lit 0)), (.ref (nat_lit 143)), (.bool true), (.int (.ofNat (nat_lit 276)) (nat_lit 0)), (.ref (nat_lit 144)), .none, (.ref (nat_lit 145)), (.ref (nat_lit 146)), (.ref (nat_lit 147)), (.int (.ofNat (nat_lit 1980)) (nat_lit 0)), (.int (.ofNat (nat_lit 93)) (nat_lit 0)), (.str s_176 (nat_lit 1981))])), (.mk [])⟩
noncomputable def o_111 (_ : Params) : Obj := ⟨(.type "function"), none, (.func ⟨s_618, s_618, (fA (qs 29)), .stmts (fB (qs 29)), (fC (qs 29)), (nat_lit 3), [], .none, .none, .none, (.str s_611 (nat_lit 1964)), none, (.ref (nat_lit 148)), .none, (nat_lit 0)⟩), (.mk [])⟩
noncomputable def o_112 (_ : Params) : Obj := ⟨(.type "tuple"), none, (.seq (.mk [(.str s_629 (nat_lit 1986)), (.str s_622 (nat_lit 1987)), (.str s_632 (nat_lit 1988)), (.str s_633 (nat_lit 1989)), (.str s_631 (nat_lit 1990))]) (nat_lit 0)), (.mk [])⟩
noncomputable def o_113 (_ : Params) : Obj := ⟨.none, none, (.func ⟨s_619, s_619, (fA (qs 30)), .stmts (fB (qs 30)), (fC (qs 30)), (nat_lit 0), [], .none, .none, .none, .none, none, .none, .none, (nat_lit 0)⟩), (.mk [])⟩
noncomputable def o_114 (_ : Params) : Obj := ⟨(.type "code"), none, (.fields (.mk [(.str s_619 (nat_lit 1983)), (.str s_619 (nat_lit 1984)), (.str s_176 (nat_lit 1985)), (.int (.ofNat (nat_lit 95)) (nat_lit 0)), (.int (.ofNat (nat_lit 2)) (nat_lit 0)), (.int (.ofNat (nat_lit 0)) (nat_lit 0)), (.int (.ofNat (nat_lit 0)) (nat_lit 0)), (.int (.ofNat (nat_lit 3)) (nat_lit 0)), (.ref (nat_lit 150)), (.bool true), (.int (.ofNat (nat_lit 276)) (nat_lit 0)), (.ref (nat_lit 151)), .none, (.ref (nat_lit 152)), (.ref (nat_lit 153)), (.ref (nat_lit 154)), (.int (.ofNat (nat_lit 1991)) (nat_lit 0)), (.int (.ofNat (nat_lit 95)) (nat_lit 0)), (.str s_176 (nat_lit 1992))])), (.mk [])⟩
noncomputable def o_115 (_ : Params) : Obj := ⟨(.type "function"), none, (.func ⟨s_619, s_619, (fA (qs 30)), .stmts (fB (qs 30)), (fC (qs 30)), (nat_lit 3), [], .none, .none, .none, (.str s_611 (nat_lit 1964)), none, (.ref (nat_lit 155)), .none, (nat_lit 0)⟩), (.mk [])⟩
noncomputable def o_116 (P : Params) : Obj := ⟨(.type "dict"), none, (.dict (.mk [⟨(PyData.keyHash P s_0), (.str s_0 (nat_lit 165)), (.str s_611 (nat_lit 1964))⟩, ⟨(PyData.keyHash P s_2), (.str s_2 (nat_lit 166)), .none⟩, ⟨(PyData.keyHash P s_3), (.str s_3 (nat_lit 167)), .none⟩, ⟨(PyData.keyHash P s_4), (.str s_4 (nat_lit 168)), (.builtin "__main__.__loader__#opaque")⟩, ⟨(PyData.keyHash P s_5), (.str s_5 (nat_lit 169)), .none⟩, ⟨(PyData.keyHash P s_173), (.str s_173 (nat_lit 170)), (.ref (nat_lit 6))⟩, ⟨(PyData.keyHash P s_174), (.str s_174 (nat_lit 171)), (.ref (nat_lit 4))⟩, ⟨(PyData.keyHash P s_175), (.str s_175 (nat_lit 173)), (.str s_176 (nat_lit 172))⟩, ⟨(PyData.keyHash P s_177), (.str s_177 (nat_lit 174)), .none⟩, ⟨(PyData.keyHash P s_161), (.str s_161 (nat_lit 275)), (.ref (nat_lit 12))⟩, ⟨(PyData.keyHash P s_228), (.str s_228 (nat_lit 291)), (.ref (nat_lit 38))⟩, ⟨(PyData.keyHash P s_229), (.str s_229 (nat_lit 300)), (.ref (nat_lit 45))⟩, ⟨(PyData.keyHash P s_230), (.str s_230 (nat_lit 309)), (.ref (nat_lit 52))⟩, ⟨(PyData.keyHash P s_231), (.str s_231 (nat_lit 317)), (.ref (nat_lit 59))⟩, ⟨(PyData.keyHash P s_232), (.str s_232 (nat_lit 326)), (.ref (nat_lit 66))⟩, ⟨(PyData.keyHash P s_233), (.str s_233 (nat_lit 338)), (.ref (nat_lit 73))⟩, ⟨(PyData.keyHash P s_234), (.str s_234 (nat_lit 351)), (.ref (nat_lit 80))⟩, ⟨(PyData.keyHash P s_235), (.str s_235 (nat_lit 386)), (.ref (nat_lit 85))⟩, ⟨(PyData.keyHash P s_251), (.str s_251 (nat_lit 1414)), (.ref (nat_lit 88))⟩, ⟨(PyData.keyHash P s_509), (.str s_509 (nat_lit 1415)), (.ref (nat_lit 93))⟩, ⟨(PyData.keyHash P s_510), (.str s_510 (nat_lit 1416)), (.ref (nat_lit 95))⟩, ⟨(PyData.keyHash P s_511), (.str s_511 (nat_lit 1418)), (.str s_512 (nat_lit 1417))⟩, ⟨(PyData.keyHash P s_513), (.str s_513 (nat_lit 1420)), (.str s_514 (nat_lit 1419))⟩, ⟨(PyData.keyHash P s_515), (.str s_515 (nat_lit 1422)), (.str s_516 (nat_lit 1421))⟩, ⟨(PyData.keyHash P s_517), (.str s_517 (nat_lit 1424)), (.str s_518 (nat_lit 1423))⟩, ⟨(PyData.keyHash P s_612), (.str s_612 (nat_lit 1930)), (.ref (nat_lit 108))⟩, ⟨(PyData.keyHash P s_613), (.str s_613 (nat_lit 1940)), (.ref (nat_lit 116))⟩, ⟨(PyData.keyHash P s_614), (.str s_614 (nat_lit 1941)), (.ref (nat_lit 118))⟩, ⟨(PyData.keyHash P s_615), (.str s_615 (nat_lit 1956)), (.ref (nat_lit 128))⟩, ⟨(PyData.keyHash P s_616), (.str s_616 (nat_lit 1963)), (.ref (nat_lit 135))⟩, ⟨(PyData.keyHash P s_617), (.str s_617 (nat_lit 1975)), (.ref (nat_lit 142))⟩, ⟨(PyData.keyHash P s_618), (.str s_618 (nat_lit 1982)), (.ref (nat_lit 149))⟩, ⟨(PyData.keyHash P s_619), (.str s_619 (nat_lit 1993)), (.ref (nat_lit 156))⟩, ⟨(PyData.keyHash P s_634), (.str s_634 (nat_lit 1999)), (.ref (nat_lit 161))⟩, ⟨(PyData.keyHash P s_635), (.str s_635 (nat_lit 2005)), (.ref (nat_lit 166))⟩]) (nat_lit 37)), (.mk [])⟩
noncomputable def o_117 (_ : Params) : Obj := ⟨.none, none, (.fields (.mk [(.int (.ofNat (nat_lit 3)) (nat_lit 0)), (.int (.ofNat (nat_lit 0)) (nat_lit 0)), (.ref (nat_lit 37)), (.int (.ofNat (nat_lit 6)) (nat_lit 0)), (.int (.ofNat (nat_lit 0)) (nat_lit 0)), (.ref (nat_lit 44)), (.int (.ofNat (nat_lit 14)) (nat_lit 0)), (.int (.ofNat (nat_lit 0)) (nat_lit 0)), (.ref (nat_lit 51)), (.int (.ofNat (nat_lit 19)) (nat_lit 0)), (.int (.ofNat (nat_lit 0)) (nat_lit 0)), (.ref (nat_lit 58)), (.int (.ofNat (nat_lit 24)) (nat_lit 0)), (.int (.ofNat (nat_lit 0)) (nat_lit 0)), (.ref (nat_lit 65)), (.int (.ofNat (nat_lit 28)) (nat_lit 0)), (.int (.ofNat (nat_lit 0)) (nat_lit 0)), (.ref (nat_lit 72)), (.int (.ofNat (nat_lit 39)) (nat_lit 0)), (.int (.ofNat (nat_lit 0)) (nat_lit 0)), (.ref (nat_lit 79)), (.int (.ofNat (nat_lit 67)) (nat_lit 0)), (.int (.ofNat (nat_lit 0)) (nat_lit 0)), (.ref (nat_lit 107)), (.int (.ofNat (nat_lit 69)) (nat_lit 0)), (.int (.ofNat (nat_lit 0)) (nat_lit 0)), (.ref (nat_lit 115)), (.int (.ofNat (nat_lit 78)) (nat_lit 0)), (.int (.ofNat (nat_lit 0)) (nat_lit 0)), (.ref (nat_lit 127)), (.int (.ofNat (nat_lit 81)) (nat_lit 0)), (.int (.ofNat (nat_lit 0)) (nat_lit 0)), (.ref (nat_lit 134)), (.int (.ofNat (nat_lit 85)) (nat_lit 0)), (.int (.ofNat (nat_lit 0)) (nat_lit 0)), (.ref (nat_lit 141)), (.int (.ofNat (nat_lit 93)) (nat_lit 0)), (.int (.ofNat (nat_lit 0)) (nat_lit 0)), (.ref (nat_lit 148)), (.int (.ofNat (nat_lit 95)) (nat_lit 0)), (.int (.ofNat (nat_lit 0)) (nat_lit 0)), (.ref (nat_lit 155)), (.int (.ofNat (nat_lit 108)) (nat_lit 0)), (.int (.ofNat (nat_lit 0)) (nat_lit 0)), (.ref (nat_lit 160)), (.int (.ofNat (nat_lit 120)) (nat_lit 0)), (.int (.ofNat (nat_lit 0)) (nat_lit 0)), (.ref (nat_lit 165))])), (.mk [])⟩
noncomputable def o_118 (_ : Params) : Obj := ⟨.none, none, (.func ⟨s_634, s_634, (fA (qs 31)), .stmts (fB (qs 31)), (fC (qs 31)), (nat_lit 0), [], .none, .none, .none, .none, none, .none, .none, (nat_lit 0)⟩), (.mk [])⟩
noncomputable def o_119 (_ : Params) : Obj := ⟨(.type "code"), none, (.fields (.mk [(.str s_634 (nat_lit 1994)), (.str s_634 (nat_lit 1995)), (.str s_176 (nat_lit 1996)), (.int (.ofNat (nat_lit 108)) (nat_lit 0)), (.int (.ofNat (nat_lit 2)) (nat_lit 0)), (.int (.ofNat (nat_lit 0)) (nat_lit 0)), (.int (.ofNat (nat_lit 0)) (nat_lit 0)), (.int (.ofNat (nat_lit 3)) (nat_lit 0)), (.ref (nat_lit 157)), (.bool true), (.int (.ofNat (nat_lit 276)) (nat_lit 0)), (.ref (nat_lit 158)), .none, .none, .none, (.ref (nat_lit 159)), (.int (.ofNat (nat_lit 1997)) (nat_lit 0)), (.int (.ofNat (nat_lit 108)) (nat_lit 0)), (.str s_176 (nat_lit 1998))])), (.mk [])⟩
noncomputable def o_120 (_ : Params) : Obj := ⟨(.type "function"), none, (.func ⟨s_634, s_634, (fA (qs 31)), .stmts (fB (qs 31)), (fC (qs 31)), (nat_lit 3), [], .none, .none, .none, (.str s_611 (nat_lit 1964)), none, (.ref (nat_lit 160)), .none, (nat_lit 0)⟩), (.mk [])⟩
noncomputable def o_121 (_ : Params) : Obj := ⟨.none, none, (.func ⟨s_635, s_635, (fA (qs 32)), .stmts (fB (qs 32)), (fC (qs 32)), (nat_lit 0), [], .none, .none, .none, .none, none, .none, .none, (nat_lit 0)⟩), (.mk [])⟩
noncomputable def o_122 (_ : Params) : Obj := ⟨(.type "code"), none, (.fields (.mk [(.str s_635 (nat_lit 2000)), (.str s_635 (nat_lit 2001)), (.str s_176 (nat_lit 2002)), (.int (.ofNat (nat_lit 120)) (nat_lit 0)), (.int (.ofNat (nat_lit 1)) (nat_lit 0)), (.int (.ofNat (nat_lit 0)) (nat_lit 0)), (.int (.ofNat (nat_lit 0)) (nat_lit 0)), (.int (.ofNat (nat_lit 3)) (nat_lit 0)), (.ref (nat_lit 162)), (.bool true), (.int (.ofNat (nat_lit 276)) (nat_lit 0)), (.ref (nat_lit 163)), .none, .none, .none, (.ref (nat_lit 164)), (.int (.ofNat (nat_lit 2003)) (nat_lit 0)), (.int (.ofNat (nat_lit 120)) (nat_lit 0)), (.str s_176 (nat_lit 2004))])), (.mk [])⟩
noncomputable def o_123 (_ : Params) : Obj := ⟨(.type "function"), none, (.func ⟨s_635, s_635, (fA (qs 32)), .stmts (fB (qs 32)), (fC (qs 32)), (nat_lit 3), [], .none, .none, .none, (.str s_611 (nat_lit 1964)), none, (.ref (nat_lit 165)), .none, (nat_lit 0)⟩), (.mk [])⟩
noncomputable def cs17 : List Nat := [nat_lit 45, nat_lit 33, nat_lit 42, nat_lit 43, nat_lit 47, nat_lit 97, nat_lit 98, nat_lit 99, nat_lit 100, nat_lit 101, nat_lit 102, nat_lit 103, nat_lit 104, nat_lit 105, nat_lit 106, nat_lit 107, nat_lit 108, nat_lit 109, nat_lit 110, nat_lit 111, nat_lit 112, nat_lit 113, nat_lit 114, nat_lit 115, nat_lit 116, nat_lit 117, nat_lit 118, nat_lit 119, nat_lit 120, nat_lit 121, nat_lit 122, nat_lit 65, nat_lit 66, nat_lit 67, nat_lit 68, nat_lit 69, nat_lit 70, nat_lit 71, nat_lit 72, nat_lit 73, nat_lit 74, nat_lit 75, nat_lit 76, nat_lit 77, nat_lit 78, nat_lit 79, nat_lit 80, nat_lit 81, nat_lit 82, nat_lit 83, nat_lit 84, nat_lit 85, nat_lit 86, nat_lit 87, nat_lit 88, nat_lit 89, nat_lit 90, nat_lit 48, nat_lit 49, nat_lit 50, nat_lit 51, nat_lit 52, nat_lit 53, nat_lit 54, nat_lit 55, nat_lit 56, nat_lit 57]
noncomputable def cs19 : List Nat := [nat_lit 32, nat_lit 33, nat_lit 34, nat_lit 35, nat_lit 36, nat_lit 37, nat_lit 38, nat_lit 39, nat_lit 40, nat_lit 41, nat_lit 42, nat_lit 43, nat_lit 44, nat_lit 45, nat_lit 46, nat_lit 47, nat_lit 48, nat_lit 49, nat_lit 50, nat_lit 51, nat_lit 52, nat_lit 53, nat_lit 54, nat_lit 55, nat_lit 56, nat_lit 57, nat_lit 58, nat_lit 59, nat_lit 60, nat_lit 62, nat_lit 63, nat_lit 64, nat_lit 65, nat_lit 66, nat_lit 67, nat_lit 68, nat_lit 69, nat_lit 70, nat_lit 71, nat_lit 72, nat_lit 73, nat_lit 74, nat_lit 75, nat_lit 76, nat_lit 77, nat_lit 78, nat_lit 79, nat_lit 80, nat_lit 81, nat_lit 82, nat_lit 83, nat_lit 84, nat_lit 85, nat_lit 86, nat_lit 87, nat_lit 88, nat_lit 89, nat_lit 90, nat_lit 91, nat_lit 92, nat_lit 93, nat_lit 94, nat_lit 95, nat_lit 96, nat_lit 97, nat_lit 98, nat_lit 99, nat_lit 100, nat_lit 101, nat_lit 102, nat_lit 103, nat_lit 104, nat_lit 105, nat_lit 106, nat_lit 107, nat_lit 108, nat_lit 109, nat_lit 110, nat_lit 111, nat_lit 112, nat_lit 113, nat_lit 114, nat_lit 115, nat_lit 116, nat_lit 117, nat_lit 118, nat_lit 119, nat_lit 120, nat_lit 121, nat_lit 122, nat_lit 123, nat_lit 124, nat_lit 125, nat_lit 126, nat_lit 9]
noncomputable def rank17 : List Nat := [nat_lit 999, nat_lit 999, nat_lit 999, nat_lit 999, nat_lit 999, nat_lit 999, nat_lit 999, nat_lit 999, nat_lit 999, nat_lit 999, nat_lit 999, nat_lit 999, nat_lit 999, nat_lit 999, nat_lit 999, nat_lit 999, nat_lit 999, nat_lit 999, nat_lit 999, nat_lit 999, nat_lit 999, nat_lit 999, nat_lit 999, nat_lit 999, nat_lit 999, nat_lit 999, nat_lit 999, nat_lit 999, nat_lit 999, nat_lit 999, nat_lit 999, nat_lit 999, nat_lit 999, nat_lit 1, nat_lit 999, nat_lit 999, nat_lit 999, nat_lit 999, nat_lit 999, nat_lit 999, nat_lit 999, nat_lit 999, nat_lit 2, nat_lit 3, nat_lit 999, nat_lit 0, nat_lit 999, nat_lit 4, nat_lit 57, nat_lit 58, nat_lit 59, nat_lit 60, nat_lit 61, nat_lit 62, nat_lit 63, nat_lit 64, nat_lit 65, nat_lit 66, nat_lit 999, nat_lit 999, nat_lit 999, nat_lit 999, nat_lit 999, nat_lit 999, nat_lit 999, nat_lit 31, nat_lit 32, nat_lit 33, nat_lit 34, nat_lit 35, nat_lit 36, nat_lit 37, nat_lit 38, nat_lit 39, nat_lit 40, nat_lit 41, nat_lit 42, nat_lit 43, nat_lit 44, nat_lit 45, nat_lit 46, nat_lit 47, nat_lit 48, nat_lit 49, nat_lit 50, nat_lit 51, nat_lit 52, nat_lit 53, nat_lit 54, nat_lit 55, nat_lit 56, nat_lit 999, nat_lit 999, nat_lit 999, nat_lit 999, nat_lit 999, nat_lit 999, nat_lit 5, nat_lit 6, nat_lit 7, nat_lit 8, nat_lit 9, nat_lit 10, nat_lit 11, nat_lit 12, nat_lit 13, nat_lit 14, nat_lit 15, nat_lit 16, nat_lit 17, nat_lit 18, nat_lit 19, nat_lit 20, nat_lit 21, nat_lit 22, nat_lit 23, nat_lit 24, nat_lit 25, nat_lit 26, nat_lit 27, nat_lit 28, nat_lit 29, nat_lit 30, nat_lit 999, nat_lit 999, nat_lit 999, nat_lit 999, nat_lit 999, nat_lit 999, nat_lit 999, nat_lit 999, nat_lit 999, nat_lit 999, nat_lit 999, nat_lit 999, nat_lit 999, nat_lit 999, nat_lit 999, nat_lit 999, nat_lit 999, nat_lit 999, nat_lit 999, nat_lit 999, nat_lit 999, nat_lit 999, nat_lit 999, nat_lit 999, nat_lit 999, nat_lit 999, nat_lit 999, nat_lit 999, nat_lit 999, nat_lit 999, nat_lit 999, nat_lit 999, nat_lit 999, nat_lit 999, nat_lit 999, nat_lit 999, nat_lit 999, nat_lit 999, nat_lit 999, nat_lit 999, nat_lit 999, nat_lit 999, nat_lit 999, nat_lit 999, nat_lit 999, nat_lit 999, nat_lit 999, nat_lit 999, nat_lit 999, nat_lit 999, nat_lit 999, nat_lit 999, nat_lit 999, nat_lit 999, nat_lit 999, nat_lit 999, nat_lit 999, nat_lit 999, nat_lit 999, nat_lit 999, nat_lit 999, nat_lit 999, nat_lit 999, nat_lit 999, nat_lit 999, nat_lit 999, nat_lit 999, nat_lit 999, nat_lit 999, nat_lit 999, nat_lit 999, nat_lit 999, nat_lit 999, nat_lit 999, nat_lit 999, nat_lit 999, nat_lit 999, nat_lit 999, nat_lit 999, nat_lit 999, nat_lit 999, nat_lit 999, nat_lit 999, nat_lit 999, nat_lit 999, nat_lit 999, nat_lit 999, nat_lit 999, nat_lit 999, nat_lit 999, nat_lit 999, nat_lit 999, nat_lit 999, nat_lit 999, nat_lit 999, nat_lit 999, nat_lit 999, nat_lit 999, nat_lit 999, nat_lit 999, nat_lit 999, nat_lit 999, nat_lit 999, nat_lit 999, nat_lit 999, nat_lit 999, nat_lit 999, nat_lit 999, nat_lit 999, nat_lit 999, nat_lit 999, nat_lit 999, nat_lit 999, nat_lit 999, nat_lit 999, nat_lit 999, nat_lit 999, nat_lit 999, nat_lit 999, nat_lit 999, nat_lit 999, nat_lit 999, nat_lit 999, nat_lit 999, nat_lit 999, nat_lit 999, nat_lit 999, nat_lit 999, nat_lit 999, nat_lit 999, nat_lit 999, nat_lit 999, nat_lit 999]
noncomputable def rank19 : List Nat := [nat_lit 999, nat_lit 999, nat_lit 999, nat_lit 999, nat_lit 999, nat_lit 999, nat_lit 999, nat_lit 999, nat_lit 999, nat_lit 94, nat_lit 999, nat_lit 999, nat_lit 999, nat_lit 999, nat_lit 999, nat_lit 999, nat_lit 999, nat_lit 999, nat_lit 999, nat_lit 999, nat_lit 999, nat_lit 999, nat_lit 999, nat_lit 999, nat_lit 999, nat_lit 999, nat_lit 999, nat_lit 999, nat_lit 999, nat_lit 999, nat_lit 999, nat_lit 999, nat_lit 0, nat_lit 1, nat_lit 2, nat_lit 3, nat_lit 4, nat_lit 5, nat_lit 6, nat_lit 7, nat_lit 8, nat_lit 9, nat_lit 10, nat_lit 11, nat_lit 12, nat_lit 13, nat_lit 14, nat_lit 15, nat_lit 16, nat_lit 17, nat_lit 18, nat_lit 19, nat_lit 20, nat_lit 21, nat_lit 22, nat_lit 23, nat_lit 24, nat_lit 25, nat_lit 26, nat_lit 27, nat_lit 28, nat_lit 999, nat_lit 29, nat_lit 30, nat_lit 31, nat_lit 32, nat_lit 33, nat_lit 34, nat_lit 35, nat_lit 36, nat_lit 37, nat_lit 38, nat_lit 39, nat_lit 40, nat_lit 41, nat_lit 42, nat_lit 43, nat_lit 44, nat_lit 45, nat_lit 46, nat_lit 47, nat_lit 48, nat_lit 49, nat_lit 50, nat_lit 51, nat_lit 52, nat_lit 53, nat_lit 54, nat_lit 55, nat_lit 56, nat_lit 57, nat_lit 58, nat_lit 59, nat_lit 60, nat_lit 61, nat_lit 62, nat_lit 63, nat_lit 64, nat_lit 65, nat_lit 66, nat_lit 67, nat_lit 68, nat_lit 69, nat_lit 70, nat_lit 71, nat_lit 72, nat_lit 73, nat_lit 74, nat_lit 75, nat_lit 76, nat_lit 77, nat_lit 78, nat_lit 79, nat_lit 80, nat_lit 81, nat_lit 82, nat_lit 83, nat_lit 84, nat_lit 85, nat_lit 86, nat_lit 87, nat_lit 88, nat_lit 89, nat_lit 90, nat_lit 91, nat_lit 92, nat_lit 93, nat_lit 999, nat_lit 999, nat_lit 999, nat_lit 999, nat_lit 999, nat_lit 999, nat_lit 999, nat_lit 999, nat_lit 999, nat_lit 999, nat_lit 999, nat_lit 999, nat_lit 999, nat_lit 999, nat_lit 999, nat_lit 999, nat_lit 999, nat_lit 999, nat_lit 999, nat_lit 999, nat_lit 999, nat_lit 999, nat_lit 999, nat_lit 999, nat_lit 999, nat_lit 999, nat_lit 999, nat_lit 999, nat_lit 999, nat_lit 999, nat_lit 999, nat_lit 999, nat_lit 999, nat_lit 999, nat_lit 999, nat_lit 999, nat_lit 999, nat_lit 999, nat_lit 999, nat_lit 999, nat_lit 999, nat_lit 999, nat_lit 999, nat_lit 999, nat_lit 999, nat_lit 999, nat_lit 999, nat_lit 999, nat_lit 999, nat_lit 999, nat_lit 999, nat_lit 999, nat_lit 999, nat_lit 999, nat_lit 999, nat_lit 999, nat_lit 999, nat_lit 999, nat_lit 999, nat_lit 999, nat_lit 999, nat_lit 999, nat_lit 999, nat_lit 999, nat_lit 999, nat_lit 999, nat_lit 999, nat_lit 999, nat_lit 999, nat_lit 999, nat_lit 999, nat_lit 999, nat_lit 999, nat_lit 999, nat_lit 999, nat_lit 999, nat_lit 999, nat_lit 999, nat_lit 999, nat_lit 999, nat_lit 999, nat_lit 999, nat_lit 999, nat_lit 999, nat_lit 999, nat_lit 999, nat_lit 999, nat_lit 999, nat_lit 999, nat_lit 999, nat_lit 999, nat_lit 999, nat_lit 999, nat_lit 999, nat_lit 999, nat_lit 999, nat_lit 999, nat_lit 999, nat_lit 999, nat_lit 999, nat_lit 999, nat_lit 999, nat_lit 999, nat_lit 999, nat_lit 999, nat_lit 999, nat_lit 999, nat_lit 999, nat_lit 999, nat_lit 999, nat_lit 999, nat_lit 999, nat_lit 999, nat_lit 999, nat_lit 999, nat_lit 999, nat_lit 999, nat_lit 999, nat_lit 999, nat_lit 999, nat_lit 999, nat_lit 999, nat_lit 999, nat_lit 999, nat_lit 999, nat_lit 999, nat_lit 999, nat_lit 999, nat_lit 999]
noncomputable def nth (l : List Nat) (n : Nat) : Nat := @List.rec Nat (fun _ => Nat → Nat) (fun _ => nat_lit 0) (fun a _ ih n => @Nat.rec (fun _ => Nat) a (fun m _ => ih m) n) l n
noncomputable def hxd (n : Nat) : Nat := @Bool.rec (fun _ => Nat) (Nat.add (nat_lit 55) n) (Nat.add (nat_lit 48) n) (Nat.blt n (nat_lit 10))
noncomputable def hx (i : Nat) : Value := .str (Str.mk (Array.mk [nat_lit 61, hxd (Nat.div i (nat_lit 16)), hxd (Nat.mod i (nat_lit 16))])) (Nat.add (nat_lit 393) (Nat.mul (nat_lit 4) i))
noncomputable def hxs (n : Nat) : List Value := @Nat.rec (fun _ => Nat → List Value) (fun _ => []) (fun _ ih i => hx i :: ih (Nat.succ i)) n (nat_lit 0)
noncomputable def lst (rank : List Nat) (i t0 : Nat) : List Value := @List.rec Nat (fun _ => Nat → List Value) (fun _ => []) (fun k _ ih j => (@Bool.rec (fun _ => Value) (hx j) (.str (Str.mk (Array.mk [j])) (Nat.add t0 (Nat.mul (nat_lit 3) k))) (Nat.blt k i)) :: ih (Nat.succ j)) rank (nat_lit 0)
noncomputable def nsC (c t : Nat) (P : Params) : Obj := ⟨(.type "dict"), none, (.dict (.mk [⟨(PyData.keyHash P s_0), (.str s_0 (nat_lit 165)), (.str s_508 (nat_lit 1425))⟩, ⟨(PyData.keyHash P s_2), (.str s_2 (nat_lit 166)), .none⟩, ⟨(PyData.keyHash P s_3), (.str s_3 (nat_lit 167)), .none⟩, ⟨(PyData.keyHash P s_4), (.str s_4 (nat_lit 168)), (.builtin "__main__.__loader__#opaque")⟩, ⟨(PyData.keyHash P s_5), (.str s_5 (nat_lit 169)), .none⟩, ⟨(PyData.keyHash P s_173), (.str s_173 (nat_lit 170)), (.ref (nat_lit 6))⟩, ⟨(PyData.keyHash P s_174), (.str s_174 (nat_lit 171)), (.ref (nat_lit 4))⟩, ⟨(PyData.keyHash P s_175), (.str s_175 (nat_lit 173)), (.str s_176 (nat_lit 172))⟩, ⟨(PyData.keyHash P s_177), (.str s_177 (nat_lit 174)), .none⟩, ⟨(PyData.keyHash P s_161), (.str s_161 (nat_lit 275)), (.ref (nat_lit 12))⟩, ⟨(PyData.keyHash P s_228), (.str s_228 (nat_lit 291)), (.ref (nat_lit 38))⟩, ⟨(PyData.keyHash P s_229), (.str s_229 (nat_lit 300)), (.ref (nat_lit 45))⟩, ⟨(PyData.keyHash P s_230), (.str s_230 (nat_lit 309)), (.ref (nat_lit 52))⟩, ⟨(PyData.keyHash P s_231), (.str s_231 (nat_lit 317)), (.ref (nat_lit 59))⟩, ⟨(PyData.keyHash P s_232), (.str s_232 (nat_lit 326)), (.ref (nat_lit 66))⟩, ⟨(PyData.keyHash P s_233), (.str s_233 (nat_lit 338)), (.ref (nat_lit 73))⟩, ⟨(PyData.keyHash P s_234), (.str s_234 (nat_lit 351)), (.ref (nat_lit 80))⟩, ⟨(PyData.keyHash P s_235), (.str s_235 (nat_lit 386)), (.ref (nat_lit 85))⟩, ⟨(PyData.keyHash P s_251), (.str s_251 (nat_lit 1414)), (.ref (nat_lit 88))⟩, ⟨(PyData.keyHash P s_509), (.str s_509 (nat_lit 1415)), (.ref (nat_lit 93))⟩, ⟨(PyData.keyHash P s_510), (.str s_510 (nat_lit 1416)), (.ref (nat_lit 95))⟩, ⟨(PyData.keyHash P s_511), (.str s_511 (nat_lit 1418)), (.str s_512 (nat_lit 1417))⟩, ⟨(PyData.keyHash P s_513), (.str s_513 (nat_lit 1420)), (.str s_514 (nat_lit 1419))⟩, ⟨(PyData.keyHash P s_515), (.str s_515 (nat_lit 1422)), (.str s_516 (nat_lit 1421))⟩, ⟨(PyData.keyHash P s_517), (.str s_517 (nat_lit 1424)), (.str s_518 (nat_lit 1423))⟩, ⟨(PyData.keyHash P s_519), (.str s_519 (nat_lit 1435)), (.int (.ofNat c) t)⟩]) (nat_lit 26)), (.mk [])⟩
noncomputable def r9 (i : Nat) : Obj := ⟨(.type "range_iterator"), none, (.fields (.mk [(.int (.ofNat i) (nat_lit 0)), (.int (.ofNat (Nat.sub (nat_lit 256) i)) (nat_lit 0)), (.int (.ofNat (nat_lit 1)) (nat_lit 0))])), .mk []⟩
noncomputable def l9 (i : Nat) : Obj := ⟨(.type "list"), none, (.seq ⟨hxs i⟩ i), .mk []⟩
noncomputable def d9 (i : Nat) (P : Params) : Obj := @Nat.rec (fun _ => Obj) ⟨(.type "dict"), none, (.dict (.mk []) (nat_lit 0)), .mk []⟩ (fun j _ => ⟨(.type "dict"), none, (.dict (.mk [⟨(PyData.keyHash P s_519), (.str s_519 (nat_lit 391)), (.int (.ofNat j) (Nat.add (nat_lit 390) (Nat.mul (nat_lit 4) j)))⟩]) (nat_lit 1)), .mk []⟩) i
noncomputable def x17 : Value := .bytes (.mk [UInt8.ofNat (nat_lit 45), UInt8.ofNat (nat_lit 33), UInt8.ofNat (nat_lit 42), UInt8.ofNat (nat_lit 43), UInt8.ofNat (nat_lit 47), UInt8.ofNat (nat_lit 97), UInt8.ofNat (nat_lit 98), UInt8.ofNat (nat_lit 99), UInt8.ofNat (nat_lit 100), UInt8.ofNat (nat_lit 101), UInt8.ofNat (nat_lit 102), UInt8.ofNat (nat_lit 103), UInt8.ofNat (nat_lit 104), UInt8.ofNat (nat_lit 105), UInt8.ofNat (nat_lit 106), UInt8.ofNat (nat_lit 107), UInt8.ofNat (nat_lit 108), UInt8.ofNat (nat_lit 109), UInt8.ofNat (nat_lit 110), UInt8.ofNat (nat_lit 111), UInt8.ofNat (nat_lit 112), UInt8.ofNat (nat_lit 113), UInt8.ofNat (nat_lit 114), UInt8.ofNat (nat_lit 115), UInt8.ofNat (nat_lit 116), UInt8.ofNat (nat_lit 117), UInt8.ofNat (nat_lit 118), UInt8.ofNat (nat_lit 119), UInt8.ofNat (nat_lit 120), UInt8.ofNat (nat_lit 121), UInt8.ofNat (nat_lit 122), UInt8.ofNat (nat_lit 65), UInt8.ofNat (nat_lit 66), UInt8.ofNat (nat_lit 67), UInt8.ofNat (nat_lit 68), UInt8.ofNat (nat_lit 69), UInt8.ofNat (nat_lit 70), UInt8.ofNat (nat_lit 71), UInt8.ofNat (nat_lit 72), UInt8.ofNat (nat_lit 73), UInt8.ofNat (nat_lit 74), UInt8.ofNat (nat_lit 75), UInt8.ofNat (nat_lit 76), UInt8.ofNat (nat_lit 77), UInt8.ofNat (nat_lit 78), UInt8.ofNat (nat_lit 79), UInt8.ofNat (nat_lit 80), UInt8.ofNat (nat_lit 81), UInt8.ofNat (nat_lit 82), UInt8.ofNat (nat_lit 83), UInt8.ofNat (nat_lit 84), UInt8.ofNat (nat_lit 85), UInt8.ofNat (nat_lit 86), UInt8.ofNat (nat_lit 87), UInt8.ofNat (nat_lit 88), UInt8.ofNat (nat_lit 89), UInt8.ofNat (nat_lit 90), UInt8.ofNat (nat_lit 48), UInt8.ofNat (nat_lit 49), UInt8.ofNat (nat_lit 50), UInt8.ofNat (nat_lit 51), UInt8.ofNat (nat_lit 52), UInt8.ofNat (nat_lit 53), UInt8.ofNat (nat_lit 54), UInt8.ofNat (nat_lit 55), UInt8.ofNat (nat_lit 56), UInt8.ofNat (nat_lit 57)]) (nat_lit 1433)
noncomputable def l17 (i : Nat) : Obj := ⟨(.type "list"), none, (.seq ⟨lst rank17 i (nat_lit 1436)⟩ (nat_lit 0)), .mk []⟩
noncomputable def b17 (i : Nat) : Obj := ⟨(.type "bytes_iterator"), none, (.fields (.mk [x17, (.int (.ofNat i) (nat_lit 0))])), .mk []⟩
noncomputable def x19 : Value := .bytes (.mk [UInt8.ofNat (nat_lit 32), UInt8.ofNat (nat_lit 33), UInt8.ofNat (nat_lit 34), UInt8.ofNat (nat_lit 35), UInt8.ofNat (nat_lit 36), UInt8.ofNat (nat_lit 37), UInt8.ofNat (nat_lit 38), UInt8.ofNat (nat_lit 39), UInt8.ofNat (nat_lit 40), UInt8.ofNat (nat_lit 41), UInt8.ofNat (nat_lit 42), UInt8.ofNat (nat_lit 43), UInt8.ofNat (nat_lit 44), UInt8.ofNat (nat_lit 45), UInt8.ofNat (nat_lit 46), UInt8.ofNat (nat_lit 47), UInt8.ofNat (nat_lit 48), UInt8.ofNat (nat_lit 49), UInt8.ofNat (nat_lit 50), UInt8.ofNat (nat_lit 51), UInt8.ofNat (nat_lit 52), UInt8.ofNat (nat_lit 53), UInt8.ofNat (nat_lit 54), UInt8.ofNat (nat_lit 55), UInt8.ofNat (nat_lit 56), UInt8.ofNat (nat_lit 57), UInt8.ofNat (nat_lit 58), UInt8.ofNat (nat_lit 59), UInt8.ofNat (nat_lit 60), UInt8.ofNat (nat_lit 62), UInt8.ofNat (nat_lit 63), UInt8.ofNat (nat_lit 64), UInt8.ofNat (nat_lit 65), UInt8.ofNat (nat_lit 66), UInt8.ofNat (nat_lit 67), UInt8.ofNat (nat_lit 68), UInt8.ofNat (nat_lit 69), UInt8.ofNat (nat_lit 70), UInt8.ofNat (nat_lit 71), UInt8.ofNat (nat_lit 72), UInt8.ofNat (nat_lit 73), UInt8.ofNat (nat_lit 74), UInt8.ofNat (nat_lit 75), UInt8.ofNat (nat_lit 76), UInt8.ofNat (nat_lit 77), UInt8.ofNat (nat_lit 78), UInt8.ofNat (nat_lit 79), UInt8.ofNat (nat_lit 80), UInt8.ofNat (nat_lit 81), UInt8.ofNat (nat_lit 82), UInt8.ofNat (nat_lit 83), UInt8.ofNat (nat_lit 84), UInt8.ofNat (nat_lit 85), UInt8.ofNat (nat_lit 86), UInt8.ofNat (nat_lit 87), UInt8.ofNat (nat_lit 88), UInt8.ofNat (nat_lit 89), UInt8.ofNat (nat_lit 90), UInt8.ofNat (nat_lit 91), UInt8.ofNat (nat_lit 92), UInt8.ofNat (nat_lit 93), UInt8.ofNat (nat_lit 94), UInt8.ofNat (nat_lit 95), UInt8.ofNat (nat_lit 96), UInt8.ofNat (nat_lit 97), UInt8.ofNat (nat_lit 98), UInt8.ofNat (nat_lit 99), UInt8.ofNat (nat_lit 100), UInt8.ofNat (nat_lit 101), UInt8.ofNat (nat_lit 102), UInt8.ofNat (nat_lit 103), UInt8.ofNat (nat_lit 104), UInt8.ofNat (nat_lit 105), UInt8.ofNat (nat_lit 106), UInt8.ofNat (nat_lit 107), UInt8.ofNat (nat_lit 108), UInt8.ofNat (nat_lit 109), UInt8.ofNat (nat_lit 110), UInt8.ofNat (nat_lit 111), UInt8.ofNat (nat_lit 112), UInt8.ofNat (nat_lit 113), UInt8.ofNat (nat_lit 114), UInt8.ofNat (nat_lit 115), UInt8.ofNat (nat_lit 116), UInt8.ofNat (nat_lit 117), UInt8.ofNat (nat_lit 118), UInt8.ofNat (nat_lit 119), UInt8.ofNat (nat_lit 120), UInt8.ofNat (nat_lit 121), UInt8.ofNat (nat_lit 122), UInt8.ofNat (nat_lit 123), UInt8.ofNat (nat_lit 124), UInt8.ofNat (nat_lit 125), UInt8.ofNat (nat_lit 126), UInt8.ofNat (nat_lit 9)]) (nat_lit 1638)
noncomputable def l19 (i : Nat) : Obj := ⟨(.type "list"), none, (.seq ⟨lst rank19 i (nat_lit 1641)⟩ (nat_lit 0)), .mk []⟩
noncomputable def b19 (i : Nat) : Obj := ⟨(.type "bytes_iterator"), none, (.fields (.mk [x19, (.int (.ofNat i) (nat_lit 0))])), .mk []⟩
noncomputable def Te (P : Params) : BT := (.node (o_0 P) (.node (o_1 P) (.node (o_3 P) (.node (o_7 P) (.node (o_7 P) .nil .nil) (.node (o_22 P) .nil .nil)) (.node (o_11 P) (.node (o_18 P) .nil .nil) (.node (o_26 P) .nil .nil))) (.node (o_5 P) (.node (o_9 P) (.node (o_16 P) .nil .nil) (.node (o_24 P) .nil .nil)) (.node (o_13 P) (.node (o_20 P) .nil .nil) .nil))) (.node (o_2 P) (.node (o_4 P) (.node (o_8 P) (.node (o_15 P) .nil .nil) (.node (o_23 P) .nil .nil)) (.node (o_12 P) (.node (o_19 P) .nil .nil) .nil)) (.node (o_6 P) (.node (o_10 P) (.node (o_17 P) .nil .nil) (.node (o_25 P) .nil .nil)) (.node (o_14 P) (.node (o_21 P) .nil .nil) .nil))))
noncomputable def Se (P : Params) (os : OsState) : SharedT := ⟨Te P, nat_lit 28, life0, .mk [], drawn0, nat_lit 276, os⟩
noncomputable def H0 (P : Params) : Heap := ⟨.mk [o_0 P, o_1 P, o_2 P, o_3 P, o_4 P, o_5 P, o_6 P, o_7 P, o_8 P, o_9 P, o_10 P, o_27 P, o_12 P, o_13 P, o_14 P, o_7 P, o_15 P, o_16 P, o_17 P, o_18 P, o_19 P, o_20 P, o_21 P, o_22 P, o_23 P, o_24 P, o_25 P, o_26 P], life0⟩
noncomputable def W0 (P : Params) (os : OsState) : Shared := ⟨H0 P, .mk [], drawn0, nat_lit 276, os⟩
noncomputable def Ha (P : Params) : Heap := ⟨.mk [o_0 P, o_1 P, o_2 P, o_3 P, o_4 P, o_5 P, o_6 P, o_7 P, o_8 P, o_9 P, o_10 P, o_27 P, o_12 P, o_13 P, o_14 P, o_7 P, o_15 P, o_16 P, o_17 P, o_18 P, o_19 P, o_20 P, o_21 P, o_22 P, o_23 P, o_24 P, o_25 P, o_26 P, o_7 P, o_8 P, o_28 P, o_29 P], life0⟩
noncomputable def Wa (P : Params) (os : OsState) : Shared := ⟨Ha P, .mk [], drawn0, nat_lit 282, os⟩
noncomputable def Tb (P : Params) : BT := (.node (o_0 P) (.node (o_1 P) (.node (o_3 P) (.node (o_7 P) (.node (o_7 P) (.node (o_29 P) .nil .nil) .nil) (.node (o_22 P) .nil .nil)) (.node (o_27 P) (.node (o_18 P) .nil .nil) (.node (o_26 P) .nil .nil))) (.node (o_5 P) (.node (o_9 P) (.node (o_16 P) .nil .nil) (.node (o_24 P) .nil .nil)) (.node (o_13 P) (.node (o_20 P) .nil .nil) (.node (o_8 P) .nil .nil)))) (.node (o_2 P) (.node (o_4 P) (.node (o_8 P) (.node (o_15 P) .nil .nil) (.node (o_23 P) .nil .nil)) (.node (o_12 P) (.node (o_19 P) .nil .nil) (.node (o_7 P) .nil .nil))) (.node (o_6 P) (.node (o_10 P) (.node (o_17 P) .nil .nil) (.node (o_25 P) .nil .nil)) (.node (o_14 P) (.node (o_21 P) .nil .nil) (.node (o_28 P) .nil .nil)))))
noncomputable def Sb (P : Params) (os : OsState) : SharedT := ⟨Tb P, nat_lit 32, life0, .mk [], drawn0, nat_lit 282, os⟩
noncomputable def T1 (P : Params) : BT := (.node (o_0 P) (.node (o_1 P) (.node (o_30 P) (.node (o_7 P) (.node (o_7 P) (.node (o_29 P) (.node (o_7 P) .nil .nil) .nil) (.node (o_8 P) (.node (o_58 P) .nil .nil) .nil)) (.node (o_22 P) (.node (o_7 P) (.node (o_53 P) .nil .nil) .nil) (.node (o_44 P) .nil .nil))) (.node (o_27 P) (.node (o_18 P) (.node (o_7 P) (.node (o_7 P) .nil .nil) .nil) (.node (o_42 P) (.node (o_61 P) .nil .nil) .nil)) (.node (o_26 P) (.node (o_37 P) (.node (o_8 P) .nil .nil) .nil) (.node (o_47 P) .nil .nil)))) (.node (o_5 P) (.node (o_9 P) (.node (o_16 P) (.node (o_8 P) (.node (o_50 P) .nil .nil) .nil) (.node (o_7 P) (.node (o_60 P) .nil .nil) .nil)) (.node (o_24 P) (.node (o_36 P) (.node (o_55 P) .nil .nil) .nil) (.node (o_45 P) .nil .nil))) (.node (o_13 P) (.node (o_20 P) (.node (o_34 P) (.node (o_52 P) .nil .nil) .nil) (.node (o_7 P) (.node (o_63 P) .nil .nil) .nil)) (.node (o_31 P) (.node (o_39 P) (.node (o_7 P) .nil .nil) .nil) (.node (o_8 P) .nil .nil))))) (.node (o_2 P) (.node (o_4 P) (.node (o_8 P) (.node (o_15 P) (.node (o_7 P) (.node (o_49 P) .nil .nil) .nil) (.node (o_40 P) (.node (o_59 P) .nil .nil) .nil)) (.node (o_23 P) (.node (o_8 P) (.node (o_54 P) .nil .nil) .nil) (.node (o_7 P) .nil .nil))) (.node (o_12 P) (.node (o_19 P) (.node (o_33 P) (.node (o_8 P) .nil .nil) .nil) (.node (o_43 P) (.node (o_62 P) .nil .nil) .nil)) (.node (o_7 P) (.node (o_38 P) (.node (o_56 P) .nil .nil) .nil) (.node (o_7 P) .nil .nil)))) (.node (o_6 P) (.node (o_10 P) (.node (o_17 P) (.node (o_32 P) (.node (o_51 P) .nil .nil) .nil) (.node (o_41 P) (.node (o_6 P) .nil .nil) .nil)) (.node (o_25 P) (.node (o_7 P) (.node (o_7 P) .nil .nil) .nil) (.node (o_46 P) .nil .nil))) (.node (o_14 P) (.node (o_21 P) (.node (o_35 P) (.node (o_7 P) .nil .nil) .nil) (.node (o_8 P) .nil .nil)) (.node (o_28 P) (.node (o_7 P) (.node (o_57 P) .nil .nil) .nil) (.node (o_48 P) .nil .nil))))))
noncomputable def S1 (P : Params) (os : OsState) : SharedT := ⟨T1 P, nat_lit 86, life0, .mk [], drawn0, nat_lit 387, os⟩
noncomputable def T2 (P : Params) : BT := (.node (o_0 P) (.node (o_1 P) (.node (o_64 P) (.node (o_7 P) (.node (o_7 P) (.node (o_29 P) (.node (o_7 P) .nil .nil) .nil) (.node (o_8 P) (.node (o_58 P) .nil .nil) .nil)) (.node (o_22 P) (.node (o_7 P) (.node (o_53 P) .nil .nil) .nil) (.node (o_44 P) (.node (o_66 P) .nil .nil) .nil))) (.node (o_27 P) (.node (o_18 P) (.node (o_7 P) (.node (o_7 P) .nil .nil) .nil) (.node (o_42 P) (.node (o_61 P) .nil .nil) .nil)) (.node (o_26 P) (.node (o_37 P) (.node (o_8 P) .nil .nil) .nil) (.node (o_47 P) (.node (o_69 P) .nil .nil) .nil)))) (.node (o_5 P) (.node (o_9 P) (.node (o_16 P) (.node (o_8 P) (.node (o_50 P) .nil .nil) .nil) (.node (o_7 P) (.node (o_60 P) .nil .nil) .nil)) (.node (o_24 P) (.node (o_36 P) (.node (o_55 P) .nil .nil) .nil) (.node (o_45 P) (.node (o_68 P) .nil .nil) .nil))) (.node (o_13 P) (.node (o_20 P) (.node (o_34 P) (.node (o_52 P) .nil .nil) .nil) (.node (o_7 P) (.node (o_63 P) .nil .nil) .nil)) (.node (o_31 P) (.node (o_39 P) (.node (o_7 P) .nil .nil) .nil) (.node (o_8 P) .nil .nil))))) (.node (o_2 P) (.node (o_4 P) (.node (o_8 P) (.node (o_15 P) (.node (o_7 P) (.node (o_49 P) .nil .nil) .nil) (.node (o_40 P) (.node (o_59 P) .nil .nil) .nil)) (.node (o_23 P) (.node (o_8 P) (.node (o_54 P) .nil .nil) .nil) (.node (o_7 P) (.node (o_67 P) .nil .nil) .nil))) (.node (o_12 P) (.node (o_19 P) (.node (o_33 P) (.node (o_8 P) .nil .nil) .nil) (.node (o_43 P) (.node (o_62 P) .nil .nil) .nil)) (.node (o_7 P) (.node (o_38 P) (.node (o_56 P) .nil .nil) .nil) (.node (o_7 P) .nil .nil)))) (.node (o_6 P) (.node (o_10 P) (.node (o_17 P) (.node (o_32 P) (.node (o_51 P) .nil .nil) .nil) (.node (o_41 P) (.node (o_6 P) .nil .nil) .nil)) (.node (o_25 P) (.node (o_7 P) (.node (o_7 P) .nil .nil) .nil) (.node (o_46 P) (.node (o_7 P) .nil .nil) .nil))) (.node (o_14 P) (.node (o_21 P) (.node (o_35 P) (.node (o_7 P) .nil .nil) .nil) (.node (o_8 P) (.node (o_65 P) .nil .nil) .nil)) (.node (o_28 P) (.node (o_7 P) (.node (o_57 P) .nil .nil) .nil) (.node (o_48 P) .nil .nil))))))
noncomputable def S2 (P : Params) (os : OsState) : SharedT := ⟨T2 P, nat_lit 92, life0, .mk [], drawn0, nat_lit 1415, os⟩
noncomputable def T3 (P : Params) : BT := (.node (o_0 P) (.node (o_1 P) (.node (o_70 P) (.node (o_7 P) (.node (o_7 P) (.node (o_29 P) (.node (o_7 P) .nil .nil) (.node (o_72 P) .nil .nil)) (.node (o_8 P) (.node (o_58 P) .nil .nil) .nil)) (.node (o_22 P) (.node (o_7 P) (.node (o_53 P) .nil .nil) .nil) (.node (o_44 P) (.node (o_66 P) .nil .nil) .nil))) (.node (o_27 P) (.node (o_18 P) (.node (o_7 P) (.node (o_7 P) .nil .nil) .nil) (.node (o_42 P) (.node (o_61 P) .nil .nil) .nil)) (.node (o_26 P) (.node (o_37 P) (.node (o_8 P) .nil .nil) .nil) (.node (o_47 P) (.node (o_69 P) .nil .nil) .nil)))) (.node (o_5 P) (.node (o_9 P) (.node (o_16 P) (.node (o_8 P) (.node (o_50 P) .nil .nil) .nil) (.node (o_7 P) (.node (o_60 P) .nil .nil) .nil)) (.node (o_24 P) (.node (o_36 P) (.node (o_55 P) .nil .nil) .nil) (.node (o_45 P) (.node (o_68 P) .nil .nil) .nil))) (.node (o_13 P) (.node (o_20 P) (.node (o_34 P) (.node (o_52 P) .nil .nil) .nil) (.node (o_7 P) (.node (o_63 P) .nil .nil) .nil)) (.node (o_31 P) (.node (o_39 P) (.node (o_7 P) .nil .nil) .nil) (.node (o_8 P) (.node (o_72 P) .nil .nil) .nil))))) (.node (o_2 P) (.node (o_4 P) (.node (o_8 P) (.node (o_15 P) (.node (o_7 P) (.node (o_49 P) .nil .nil) .nil) (.node (o_40 P) (.node (o_59 P) .nil .nil) .nil)) (.node (o_23 P) (.node (o_8 P) (.node (o_54 P) .nil .nil) .nil) (.node (o_7 P) (.node (o_67 P) .nil .nil) .nil))) (.node (o_12 P) (.node (o_19 P) (.node (o_33 P) (.node (o_8 P) .nil .nil) .nil) (.node (o_43 P) (.node (o_62 P) .nil .nil) .nil)) (.node (o_7 P) (.node (o_38 P) (.node (o_56 P) .nil .nil) .nil) (.node (o_7 P) (.node (o_71 P) .nil .nil) .nil)))) (.node (o_6 P) (.node (o_10 P) (.node (o_17 P) (.node (o_32 P) (.node (o_51 P) .nil .nil) .nil) (.node (o_41 P) (.node (o_6 P) .nil .nil) .nil)) (.node (o_25 P) (.node (o_7 P) (.node (o_7 P) .nil .nil) .nil) (.node (o_46 P) (.node (o_7 P) .nil .nil) .nil))) (.node (o_14 P) (.node (o_21 P) (.node (o_35 P) (.node (o_7 P) .nil .nil) .nil) (.node (o_8 P) (.node (o_65 P) .nil .nil) .nil)) (.node (o_28 P) (.node (o_7 P) (.node (o_57 P) .nil .nil) .nil) (.node (o_48 P) (.node (o_71 P) .nil .nil) .nil))))))
noncomputable def S3 (P : Params) (os : OsState) : SharedT := ⟨T3 P, nat_lit 96, life0, .mk [], drawn0, nat_lit 1427, os⟩
noncomputable def T4 (P : Params) : BT := (.node (o_0 P) (.node (o_1 P) (.node (o_73 P) (.node (o_7 P) (.node (o_7 P) (.node (o_29 P) (.node (o_7 P) .nil .nil) (.node (o_72 P) .nil .nil)) (.node (o_8 P) (.node (o_58 P) .nil .nil) .nil)) (.node (o_22 P) (.node (o_7 P) (.node (o_53 P) .nil .nil) .nil) (.node (o_44 P) (.node (o_66 P) .nil .nil) .nil))) (.node (o_27 P) (.node (o_18 P) (.node (o_7 P) (.node (o_7 P) .nil .nil) .nil) (.node (o_42 P) (.node (o_61 P) .nil .nil) .nil)) (.node (o_26 P) (.node (o_37 P) (.node (o_8 P) .nil .nil) .nil) (.node (o_47 P) (.node (o_69 P) .nil .nil) .nil)))) (.node (o_5 P) (.node (o_9 P) (.node (o_16 P) (.node (o_8 P) (.node (o_50 P) .nil .nil) (.node (o_7 P) .nil .nil)) (.node (o_7 P) (.node (o_60 P) .nil .nil) .nil)) (.node (o_24 P) (.node (o_36 P) (.node (o_55 P) .nil .nil) .nil) (.node (o_45 P) (.node (o_68 P) .nil .nil) .nil))) (.node (o_13 P) (.node (o_20 P) (.node (o_34 P) (.node (o_52 P) .nil .nil) .nil) (.node (o_7 P) (.node (o_63 P) .nil .nil) .nil)) (.node (o_31 P) (.node (o_39 P) (.node (o_7 P) .nil .nil) .nil) (.node (o_8 P) (.node (o_74 P) .nil .nil) .nil))))) (.node (o_2 P) (.node (o_4 P) (.node (o_8 P) (.node (o_15 P) (.node (o_7 P) (.node (o_49 P) .nil .nil) (.node (o_75 P) .nil .nil)) (.node (o_40 P) (.node (o_59 P) .nil .nil) .nil)) (.node (o_23 P) (.node (o_8 P) (.node (o_54 P) .nil .nil) .nil) (.node (o_7 P) (.node (o_67 P) .nil .nil) .nil))) (.node (o_12 P) (.node (o_19 P) (.node (o_33 P) (.node (o_8 P) .nil .nil) .nil) (.node (o_43 P) (.node (o_62 P) .nil .nil) .nil)) (.node (o_7 P) (.node (o_38 P) (.node (o_56 P) .nil .nil) .nil) (.node (o_7 P) (.node (o_71 P) .nil .nil) .nil)))) (.node (o_6 P) (.node (o_10 P) (.node (o_17 P) (.node (o_32 P) (.node (o_51 P) .nil .nil) (.node (o_76 P) .nil .nil)) (.node (o_41 P) (.node (o_6 P) .nil .nil) .nil)) (.node (o_25 P) (.node (o_7 P) (.node (o_7 P) .nil .nil) .nil) (.node (o_46 P) (.node (o_7 P) .nil .nil) .nil))) (.node (o_14 P) (.node (o_21 P) (.node (o_35 P) (.node (o_7 P) .nil .nil) .nil) (.node (o_8 P) (.node (o_65 P) .nil .nil) .nil)) (.node (o_28 P) (.node (o_7 P) (.node (o_57 P) .nil .nil) .nil) (.node (o_48 P) (.node (o_71 P) .nil .nil) .nil))))))
noncomputable def S4 (P : Params) (os : OsState) : SharedT := ⟨T4 P, nat_lit 99, life0, .mk [], drawn0, nat_lit 1635, os⟩
noncomputable def T5 (P : Params) : BT := (.node (o_0 P) (.node (o_1 P) (.node (o_73 P) (.node (o_7 P) (.node (o_7 P) (.node (o_29 P) (.node (o_7 P) .nil .nil) (.node (o_72 P) .nil .nil)) (.node (o_8 P) (.node (o_58 P) .nil .nil) .nil)) (.node (o_22 P) (.node (o_7 P) (.node (o_53 P) .nil .nil) .nil) (.node (o_44 P) (.node (o_66 P) .nil .nil) .nil))) (.node (o_27 P) (.node (o_18 P) (.node (o_7 P) (.node (o_7 P) .nil .nil) .nil) (.node (o_42 P) (.node (o_61 P) .nil .nil) .nil)) (.node (o_26 P) (.node (o_37 P) (.node (o_8 P) .nil .nil) .nil) (.node (o_47 P) (.node (o_69 P) .nil .nil) .nil)))) (.node (o_5 P) (.node (o_9 P) (.node (o_16 P) (.node (o_8 P) (.node (o_50 P) .nil .nil) (.node (o_7 P) .nil .nil)) (.node (o_7 P) (.node (o_60 P) .nil .nil) .nil)) (.node (o_24 P) (.node (o_36 P) (.node (o_55 P) .nil .nil) .nil) (.node (o_45 P) (.node (o_68 P) .nil .nil) .nil))) (.node (o_13 P) (.node (o_20 P) (.node (o_34 P) (.node (o_52 P) .nil .nil) .nil) (.node (o_7 P) (.node (o_63 P) .nil .nil) .nil)) (.node (o_31 P) (.node (o_39 P) (.node (o_7 P) .nil .nil) .nil) (.node (o_8 P) (.node (o_77 P) .nil .nil) .nil))))) (.node (o_2 P) (.node (o_4 P) (.node (o_8 P) (.node (o_15 P) (.node (o_7 P) (.node (o_49 P) .nil .nil) (.node (o_75 P) .nil .nil)) (.node (o_40 P) (.node (o_59 P) .nil .nil) .nil)) (.node (o_23 P) (.node (o_8 P) (.node (o_54 P) .nil .nil) .nil) (.node (o_7 P) (.node (o_67 P) .nil .nil) .nil))) (.node (o_12 P) (.node (o_19 P) (.node (o_33 P) (.node (o_8 P) .nil .nil) .nil) (.node (o_43 P) (.node (o_62 P) .nil .nil) .nil)) (.node (o_7 P) (.node (o_38 P) (.node (o_56 P) .nil .nil) .nil) (.node (o_7 P) (.node (o_71 P) .nil .nil) .nil)))) (.node (o_6 P) (.node (o_10 P) (.node (o_17 P) (.node (o_32 P) (.node (o_51 P) .nil .nil) (.node (o_76 P) .nil .nil)) (.node (o_41 P) (.node (o_6 P) .nil .nil) .nil)) (.node (o_25 P) (.node (o_7 P) (.node (o_7 P) .nil .nil) .nil) (.node (o_46 P) (.node (o_7 P) .nil .nil) .nil))) (.node (o_14 P) (.node (o_21 P) (.node (o_35 P) (.node (o_7 P) .nil .nil) .nil) (.node (o_8 P) (.node (o_65 P) .nil .nil) .nil)) (.node (o_28 P) (.node (o_7 P) (.node (o_57 P) .nil .nil) .nil) (.node (o_48 P) (.node (o_71 P) .nil .nil) .nil))))))
noncomputable def S5 (P : Params) (os : OsState) : SharedT := ⟨T5 P, nat_lit 99, life0, .mk [], drawn0, nat_lit 1638, os⟩
noncomputable def T6 (P : Params) : BT := (.node (o_0 P) (.node (o_1 P) (.node (o_78 P) (.node (o_7 P) (.node (o_7 P) (.node (o_29 P) (.node (o_7 P) .nil .nil) (.node (o_79 P) .nil .nil)) (.node (o_8 P) (.node (o_58 P) .nil .nil) .nil)) (.node (o_22 P) (.node (o_7 P) (.node (o_53 P) .nil .nil) .nil) (.node (o_44 P) (.node (o_66 P) .nil .nil) .nil))) (.node (o_27 P) (.node (o_18 P) (.node (o_7 P) (.node (o_7 P) .nil .nil) (.node (o_80 P) .nil .nil)) (.node (o_42 P) (.node (o_61 P) .nil .nil) .nil)) (.node (o_26 P) (.node (o_37 P) (.node (o_8 P) .nil .nil) .nil) (.node (o_47 P) (.node (o_69 P) .nil .nil) .nil)))) (.node (o_5 P) (.node (o_9 P) (.node (o_16 P) (.node (o_8 P) (.node (o_50 P) .nil .nil) (.node (o_7 P) .nil .nil)) (.node (o_7 P) (.node (o_60 P) .nil .nil) .nil)) (.node (o_24 P) (.node (o_36 P) (.node (o_55 P) .nil .nil) .nil) (.node (o_45 P) (.node (o_68 P) .nil .nil) .nil))) (.node (o_13 P) (.node (o_20 P) (.node (o_34 P) (.node (o_52 P) .nil .nil) (.node (o_81 P) .nil .nil)) (.node (o_7 P) (.node (o_63 P) .nil .nil) .nil)) (.node (o_31 P) (.node (o_39 P) (.node (o_7 P) .nil .nil) .nil) (.node (o_8 P) (.node (o_77 P) .nil .nil) .nil))))) (.node (o_2 P) (.node (o_4 P) (.node (o_8 P) (.node (o_15 P) (.node (o_7 P) (.node (o_49 P) .nil .nil) (.node (o_75 P) .nil .nil)) (.node (o_40 P) (.node (o_59 P) .nil .nil) .nil)) (.node (o_23 P) (.node (o_8 P) (.node (o_54 P) .nil .nil) .nil) (.node (o_7 P) (.node (o_67 P) .nil .nil) .nil))) (.node (o_12 P) (.node (o_19 P) (.node (o_33 P) (.node (o_8 P) .nil .nil) (.node (o_7 P) .nil .nil)) (.node (o_43 P) (.node (o_62 P) .nil .nil) .nil)) (.node (o_7 P) (.node (o_38 P) (.node (o_56 P) .nil .nil) .nil) (.node (o_7 P) (.node (o_71 P) .nil .nil) .nil)))) (.node (o_6 P) (.node (o_10 P) (.node (o_17 P) (.node (o_32 P) (.node (o_51 P) .nil .nil) (.node (o_76 P) .nil .nil)) (.node (o_41 P) (.node (o_6 P) .nil .nil) .nil)) (.node (o_25 P) (.node (o_7 P) (.node (o_7 P) .nil .nil) .nil) (.node (o_46 P) (.node (o_7 P) .nil .nil) .nil))) (.node (o_14 P) (.node (o_21 P) (.node (o_35 P) (.node (o_7 P) .nil .nil) .nil) (.node (o_8 P) (.node (o_65 P) .nil .nil) .nil)) (.node (o_28 P) (.node (o_7 P) (.node (o_57 P) .nil .nil) .nil) (.node (o_48 P) (.node (o_71 P) .nil .nil) .nil))))))
noncomputable def S6 (P : Params) (os : OsState) : SharedT := ⟨T6 P, nat_lit 102, life0, .mk [], drawn0, nat_lit 1924, os⟩
noncomputable def T7 (P : Params) : BT := (.node (o_0 P) (.node (o_1 P) (.node (o_82 P) (.node (o_7 P) (.node (o_7 P) (.node (o_29 P) (.node (o_7 P) (.node (o_98 P) .nil .nil) .nil) (.node (o_79 P) .nil .nil)) (.node (o_8 P) (.node (o_58 P) (.node (o_7 P) .nil .nil) .nil) (.node (o_8 P) .nil .nil))) (.node (o_22 P) (.node (o_7 P) (.node (o_53 P) (.node (o_103 P) .nil .nil) .nil) (.node (o_8 P) .nil .nil)) (.node (o_44 P) (.node (o_66 P) (.node (o_8 P) .nil .nil) .nil) (.node (o_94 P) .nil .nil)))) (.node (o_27 P) (.node (o_18 P) (.node (o_7 P) (.node (o_7 P) (.node (o_100 P) .nil .nil) .nil) (.node (o_80 P) .nil .nil)) (.node (o_42 P) (.node (o_61 P) (.node (o_109 P) .nil .nil) .nil) (.node (o_91 P) .nil .nil))) (.node (o_26 P) (.node (o_37 P) (.node (o_8 P) (.node (o_7 P) .nil .nil) .nil) (.node (o_86 P) .nil .nil)) (.node (o_47 P) (.node (o_69 P) (.node (o_114 P) .nil .nil) .nil) (.node (o_8 P) .nil .nil))))) (.node (o_5 P) (.node (o_9 P) (.node (o_16 P) (.node (o_8 P) (.node (o_50 P) (.node (o_7 P) .nil .nil) .nil) (.node (o_7 P) .nil .nil)) (.node (o_7 P) (.node (o_60 P) (.node (o_108 P) .nil .nil) .nil) (.node (o_7 P) .nil .nil))) (.node (o_24 P) (.node (o_36 P) (.node (o_55 P) (.node (o_8 P) .nil .nil) .nil) (.node (o_7 P) .nil .nil)) (.node (o_45 P) (.node (o_68 P) (.node (o_7 P) .nil .nil) .nil) (.node (o_95 P) .nil .nil)))) (.node (o_13 P) (.node (o_20 P) (.node (o_34 P) (.node (o_52 P) (.node (o_101 P) .nil .nil) .nil) (.node (o_81 P) .nil .nil)) (.node (o_7 P) (.node (o_63 P) (.node (o_111 P) .nil .nil) .nil) (.node (o_71 P) .nil .nil))) (.node (o_83 P) (.node (o_39 P) (.node (o_7 P) (.node (o_106 P) .nil .nil) .nil) (.node (o_88 P) .nil .nil)) (.node (o_8 P) (.node (o_77 P) .nil .nil) (.node (o_7 P) .nil .nil)))))) (.node (o_2 P) (.node (o_4 P) (.node (o_8 P) (.node (o_15 P) (.node (o_7 P) (.node (o_49 P) (.node (o_99 P) .nil .nil) .nil) (.node (o_75 P) .nil .nil)) (.node (o_40 P) (.node (o_59 P) (.node (o_8 P) .nil .nil) .nil) (.node (o_89 P) .nil .nil))) (.node (o_23 P) (.node (o_8 P) (.node (o_54 P) (.node (o_7 P) .nil .nil) .nil) (.node (o_84 P) .nil .nil)) (.node (o_7 P) (.node (o_67 P) (.node (o_112 P) .nil .nil) .nil) (.node (o_7 P) .nil .nil)))) (.node (o_12 P) (.node (o_19 P) (.node (o_33 P) (.node (o_8 P) (.node (o_7 P) .nil .nil) .nil) (.node (o_7 P) .nil .nil)) (.node (o_43 P) (.node (o_62 P) (.node (o_110 P) .nil .nil) .nil) (.node (o_92 P) .nil .nil))) (.node (o_7 P) (.node (o_38 P) (.node (o_56 P) (.node (o_105 P) .nil .nil) .nil) (.node (o_87 P) .nil .nil)) (.node (o_7 P) (.node (o_71 P) (.node (o_115 P) .nil .nil) .nil) (.node (o_96 P) .nil .nil))))) (.node (o_6 P) (.node (o_10 P) (.node (o_17 P) (.node (o_32 P) (.node (o_51 P) (.node (o_8 P) .nil .nil) .nil) (.node (o_76 P) .nil .nil)) (.node (o_41 P) (.node (o_6 P) (.node (o_7 P) .nil .nil) .nil) (.node (o_90 P) .nil .nil))) (.node (o_25 P) (.node (o_7 P) (.node (o_7 P) (.node (o_104 P) .nil .nil) .nil) (.node (o_85 P) .nil .nil)) (.node (o_46 P) (.node (o_7 P) (.node (o_113 P) .nil .nil) .nil) (.node (o_7 P) .nil .nil)))) (.node (o_14 P) (.node (o_21 P) (.node (o_35 P) (.node (o_7 P) (.node (o_102 P) .nil .nil) .nil) (.node (o_7 P) .nil .nil)) (.node (o_8 P) (.node (o_65 P) (.node (o_7 P) .nil .nil) .nil) (.node (o_93 P) .nil .nil))) (.node (o_28 P) (.node (o_7 P) (.node (o_57 P) (.node (o_107 P) .nil .nil) .nil) (.node (o_7 P) .nil .nil)) (.node (o_48 P) (.node (o_71 P) .nil .nil) (.node (o_97 P) .nil .nil)))))))
noncomputable def S7 (P : Params) (os : OsState) : SharedT := ⟨T7 P, nat_lit 157, life0, .mk [], drawn0, nat_lit 1994, os⟩
noncomputable def H8 (P : Params) : Heap := ⟨.mk [o_0 P, o_1 P, o_2 P, o_116 P, o_4 P, o_5 P, o_6 P, o_7 P, o_8 P, o_9 P, o_10 P, o_27 P, o_12 P, o_13 P, o_14 P, o_7 P, o_15 P, o_16 P, o_17 P, o_18 P, o_19 P, o_20 P, o_21 P, o_22 P, o_23 P, o_24 P, o_25 P, o_26 P, o_7 P, o_117 P, o_28 P, o_29 P, o_7 P, o_8 P, o_32 P, o_7 P, o_33 P, o_34 P, o_35 P, o_7 P, o_8 P, o_36 P, o_7 P, o_37 P, o_38 P, o_39 P, o_7 P, o_8 P, o_40 P, o_7 P, o_41 P, o_42 P, o_43 P, o_7 P, o_8 P, o_44 P, o_7 P, o_45 P, o_46 P, o_47 P, o_7 P, o_8 P, o_48 P, o_7 P, o_49 P, o_50 P, o_51 P, o_7 P, o_8 P, o_52 P, o_7 P, o_53 P, o_54 P, o_55 P, o_7 P, o_8 P, o_56 P, o_7 P, o_57 P, o_58 P, o_59 P, o_60 P, o_6 P, o_61 P, o_62 P, o_63 P, o_65 P, o_66 P, o_67 P, o_68 P, o_7 P, o_69 P, o_71 P, o_77 P, o_71 P, o_79 P, o_75 P, o_7 P, o_76 P, o_80 P, o_7 P, o_81 P, o_7 P, o_8 P, o_84 P, o_7 P, o_85 P, o_86 P, o_87 P, o_88 P, o_7 P, o_8 P, o_89 P, o_7 P, o_90 P, o_91 P, o_92 P, o_71 P, o_93 P, o_94 P, o_7 P, o_95 P, o_7 P, o_8 P, o_96 P, o_7 P, o_97 P, o_98 P, o_99 P, o_7 P, o_8 P, o_100 P, o_7 P, o_101 P, o_102 P, o_103 P, o_7 P, o_8 P, o_104 P, o_7 P, o_105 P, o_106 P, o_107 P, o_7 P, o_8 P, o_108 P, o_7 P, o_109 P, o_110 P, o_111 P, o_7 P, o_8 P, o_112 P, o_7 P, o_113 P, o_114 P, o_115 P, o_7 P, o_8 P, o_118 P, o_119 P, o_120 P, o_7 P, o_8 P, o_121 P, o_122 P, o_123 P], life0⟩
noncomputable def W8 (P : Params) (os : OsState) : Shared := ⟨H8 P, .mk [], drawn0, nat_lit 2006, os⟩
noncomputable def T8 (P : Params) : BT := (.node (o_0 P) (.node (o_1 P) (.node (o_116 P) (.node (o_7 P) (.node (o_7 P) (.node (o_29 P) (.node (o_7 P) (.node (o_98 P) .nil .nil) .nil) (.node (o_79 P) (.node (o_118 P) .nil .nil) .nil)) (.node (o_8 P) (.node (o_58 P) (.node (o_7 P) .nil .nil) .nil) (.node (o_8 P) .nil .nil))) (.node (o_22 P) (.node (o_7 P) (.node (o_53 P) (.node (o_103 P) .nil .nil) .nil) (.node (o_8 P) .nil .nil)) (.node (o_44 P) (.node (o_66 P) (.node (o_8 P) .nil .nil) .nil) (.node (o_94 P) .nil .nil)))) (.node (o_27 P) (.node (o_18 P) (.node (o_7 P) (.node (o_7 P) (.node (o_100 P) .nil .nil) .nil) (.node (o_80 P) (.node (o_8 P) .nil .nil) .nil)) (.node (o_42 P) (.node (o_61 P) (.node (o_109 P) .nil .nil) .nil) (.node (o_91 P) .nil .nil))) (.node (o_26 P) (.node (o_37 P) (.node (o_8 P) (.node (o_7 P) .nil .nil) .nil) (.node (o_86 P) .nil .nil)) (.node (o_47 P) (.node (o_69 P) (.node (o_114 P) .nil .nil) .nil) (.node (o_8 P) .nil .nil))))) (.node (o_5 P) (.node (o_9 P) (.node (o_16 P) (.node (o_8 P) (.node (o_50 P) (.node (o_7 P) .nil .nil) .nil) (.node (o_7 P) (.node (o_120 P) .nil .nil) .nil)) (.node (o_7 P) (.node (o_60 P) (.node (o_108 P) .nil .nil) .nil) (.node (o_7 P) .nil .nil))) (.node (o_24 P) (.node (o_36 P) (.node (o_55 P) (.node (o_8 P) .nil .nil) .nil) (.node (o_7 P) .nil .nil)) (.node (o_45 P) (.node (o_68 P) (.node (o_7 P) .nil .nil) .nil) (.node (o_95 P) .nil .nil)))) (.node (o_13 P) (.node (o_20 P) (.node (o_34 P) (.node (o_52 P) (.node (o_101 P) .nil .nil) .nil) (.node (o_81 P) (.node (o_122 P) .nil .nil) .nil)) (.node (o_7 P) (.node (o_63 P) (.node (o_111 P) .nil .nil) .nil) (.node (o_71 P) .nil .nil))) (.node (o_117 P) (.node (o_39 P) (.node (o_7 P) (.node (o_106 P) .nil .nil) .nil) (.node (o_88 P) .nil .nil)) (.node (o_8 P) (.node (o_77 P) (.node (o_7 P) .nil .nil) .nil) (.node (o_7 P) .nil .nil)))))) (.node (o_2 P) (.node (o_4 P) (.node (o_8 P) (.node (o_15 P) (.node (o_7 P) (.node (o_49 P) (.node (o_99 P) .nil .nil) .nil) (.node (o_75 P) (.node (o_119 P) .nil .nil) .nil)) (.node (o_40 P) (.node (o_59 P) (.node (o_8 P) .nil .nil) .nil) (.node (o_89 P) .nil .nil))) (.node (o_23 P) (.node (o_8 P) (.node (o_54 P) (.node (o_7 P) .nil .nil) .nil) (.node (o_84 P) .nil .nil)) (.node (o_7 P) (.node (o_67 P) (.node (o_112 P) .nil .nil) .nil) (.node (o_7 P) .nil .nil)))) (.node (o_12 P) (.node (o_19 P) (.node (o_33 P) (.node (o_8 P) (.node (o_7 P) .nil .nil) .nil) (.node (o_7 P) (.node (o_121 P) .nil .nil) .nil)) (.node (o_43 P) (.node (o_62 P) (.node (o_110 P) .nil .nil) .nil) (.node (o_92 P) .nil .nil))) (.node (o_7 P) (.node (o_38 P) (.node (o_56 P) (.node (o_105 P) .nil .nil) .nil) (.node (o_87 P) .nil .nil)) (.node (o_7 P) (.node (o_71 P) (.node (o_115 P) .nil .nil) .nil) (.node (o_96 P) .nil .nil))))) (.node (o_6 P) (.node (o_10 P) (.node (o_17 P) (.node (o_32 P) (.node (o_51 P) (.node (o_8 P) .nil .nil) .nil) (.node (o_76 P) (.node (o_7 P) .nil .nil) .nil)) (.node (o_41 P) (.node (o_6 P) (.node (o_7 P) .nil .nil) .nil) (.node (o_90 P) .nil .nil))) (.node (o_25 P) (.node (o_7 P) (.node (o_7 P) (.node (o_104 P) .nil .nil) .nil) (.node (o_85 P) .nil .nil)) (.node (o_46 P) (.node (o_7 P) (.node (o_113 P) .nil .nil) .nil) (.node (o_7 P) .nil .nil)))) (.node (o_14 P) (.node (o_21 P) (.node (o_35 P) (.node (o_7 P) (.node (o_102 P) .nil .nil) .nil) (.node (o_7 P) (.node (o_123 P) .nil .nil) .nil)) (.node (o_8 P) (.node (o_65 P) (.node (o_7 P) .nil .nil) .nil) (.node (o_93 P) .nil .nil))) (.node (o_28 P) (.node (o_7 P) (.node (o_57 P) (.node (o_107 P) .nil .nil) .nil) (.node (o_7 P) .nil .nil)) (.node (o_48 P) (.node (o_71 P) (.node (o_8 P) .nil .nil) .nil) (.node (o_97 P) .nil .nil)))))))
noncomputable def S8 (P : Params) (os : OsState) : SharedT := ⟨T8 P, nat_lit 167, life0, .mk [], drawn0, nat_lit 2006, os⟩
noncomputable def T9 (i : Nat) (P : Params) : BT := (.node (o_0 P) (.node (o_1 P) (.node (o_30 P) (.node (o_7 P) (.node (o_7 P) (.node (o_29 P) (.node (o_7 P) .nil .nil) .nil) (.node (o_8 P) (.node (o_58 P) .nil .nil) .nil)) (.node (o_22 P) (.node (o_7 P) (.node (o_53 P) .nil .nil) .nil) (.node (o_44 P) (.node (r9 i) .nil .nil) .nil))) (.node (o_27 P) (.node (o_18 P) (.node (o_7 P) (.node (o_7 P) .nil .nil) .nil) (.node (o_42 P) (.node (o_61 P) .nil .nil) .nil)) (.node (o_26 P) (.node (o_37 P) (.node (o_8 P) .nil .nil) .nil) (.node (o_47 P) .nil .nil)))) (.node (o_5 P) (.node (o_9 P) (.node (o_16 P) (.node (o_8 P) (.node (o_50 P) .nil .nil) .nil) (.node (o_7 P) (.node (o_60 P) .nil .nil) .nil)) (.node (o_24 P) (.node (o_36 P) (.node (o_55 P) .nil .nil) .nil) (.node (o_45 P) (.node (d9 i P) .nil .nil) .nil))) (.node (o_13 P) (.node (o_20 P) (.node (o_34 P) (.node (o_52 P) .nil .nil) .nil) (.node (o_7 P) (.node (o_63 P) .nil .nil) .nil)) (.node (o_31 P) (.node (o_39 P) (.node (o_7 P) .nil .nil) .nil) (.node (o_8 P) .nil .nil))))) (.node (o_2 P) (.node (o_4 P) (.node (o_8 P) (.node (o_15 P) (.node (o_7 P) (.node (o_49 P) .nil .nil) .nil) (.node (o_40 P) (.node (o_59 P) .nil .nil) .nil)) (.node (o_23 P) (.node (o_8 P) (.node (o_54 P) .nil .nil) .nil) (.node (o_7 P) (.node (l9 i) .nil .nil) .nil))) (.node (o_12 P) (.node (o_19 P) (.node (o_33 P) (.node (o_8 P) .nil .nil) .nil) (.node (o_43 P) (.node (o_62 P) .nil .nil) .nil)) (.node (o_7 P) (.node (o_38 P) (.node (o_56 P) .nil .nil) .nil) (.node (o_7 P) .nil .nil)))) (.node (o_6 P) (.node (o_10 P) (.node (o_17 P) (.node (o_32 P) (.node (o_51 P) .nil .nil) .nil) (.node (o_41 P) (.node (o_6 P) .nil .nil) .nil)) (.node (o_25 P) (.node (o_7 P) (.node (o_7 P) .nil .nil) .nil) (.node (o_46 P) .nil .nil))) (.node (o_14 P) (.node (o_21 P) (.node (o_35 P) (.node (o_7 P) .nil .nil) .nil) (.node (o_8 P) (.node (o_65 P) .nil .nil) .nil)) (.node (o_28 P) (.node (o_7 P) (.node (o_57 P) .nil .nil) .nil) (.node (o_48 P) .nil .nil))))))
noncomputable def n17 (i : Nat) (P : Params) : Obj := @Nat.rec (fun _ => Obj) (o_70 P) (fun j _ => nsC (nth cs17 j) (Nat.add (nat_lit 1434) (Nat.mul (nat_lit 3) j)) P) i
noncomputable def T17 (i : Nat) (P : Params) : BT := (.node (o_0 P) (.node (o_1 P) (.node (n17 i P) (.node (o_7 P) (.node (o_7 P) (.node (o_29 P) (.node (o_7 P) .nil .nil) (.node (o_72 P) .nil .nil)) (.node (o_8 P) (.node (o_58 P) .nil .nil) .nil)) (.node (o_22 P) (.node (o_7 P) (.node (o_53 P) .nil .nil) .nil) (.node (o_44 P) (.node (o_66 P) .nil .nil) .nil))) (.node (o_27 P) (.node (o_18 P) (.node (o_7 P) (.node (o_7 P) .nil .nil) .nil) (.node (o_42 P) (.node (o_61 P) .nil .nil) .nil)) (.node (o_26 P) (.node (o_37 P) (.node (o_8 P) .nil .nil) .nil) (.node (o_47 P) (.node (o_69 P) .nil .nil) .nil)))) (.node (o_5 P) (.node (o_9 P) (.node (o_16 P) (.node (o_8 P) (.node (o_50 P) .nil .nil) .nil) (.node (o_7 P) (.node (o_60 P) .nil .nil) .nil)) (.node (o_24 P) (.node (o_36 P) (.node (o_55 P) .nil .nil) .nil) (.node (o_45 P) (.node (o_68 P) .nil .nil) .nil))) (.node (o_13 P) (.node (o_20 P) (.node (o_34 P) (.node (o_52 P) .nil .nil) .nil) (.node (o_7 P) (.node (o_63 P) .nil .nil) .nil)) (.node (o_31 P) (.node (o_39 P) (.node (o_7 P) .nil .nil) .nil) (.node (o_8 P) (.node (l17 i) .nil .nil) .nil))))) (.node (o_2 P) (.node (o_4 P) (.node (o_8 P) (.node (o_15 P) (.node (o_7 P) (.node (o_49 P) .nil .nil) (.node (b17 i) .nil .nil)) (.node (o_40 P) (.node (o_59 P) .nil .nil) .nil)) (.node (o_23 P) (.node (o_8 P) (.node (o_54 P) .nil .nil) .nil) (.node (o_7 P) (.node (o_67 P) .nil .nil) .nil))) (.node (o_12 P) (.node (o_19 P) (.node (o_33 P) (.node (o_8 P) .nil .nil) .nil) (.node (o_43 P) (.node (o_62 P) .nil .nil) .nil)) (.node (o_7 P) (.node (o_38 P) (.node (o_56 P) .nil .nil) .nil) (.node (o_7 P) (.node (o_71 P) .nil .nil) .nil)))) (.node (o_6 P) (.node (o_10 P) (.node (o_17 P) (.node (o_32 P) (.node (o_51 P) .nil .nil) .nil) (.node (o_41 P) (.node (o_6 P) .nil .nil) .nil)) (.node (o_25 P) (.node (o_7 P) (.node (o_7 P) .nil .nil) .nil) (.node (o_46 P) (.node (o_7 P) .nil .nil) .nil))) (.node (o_14 P) (.node (o_21 P) (.node (o_35 P) (.node (o_7 P) .nil .nil) .nil) (.node (o_8 P) (.node (o_65 P) .nil .nil) .nil)) (.node (o_28 P) (.node (o_7 P) (.node (o_57 P) .nil .nil) .nil) (.node (o_48 P) (.node (o_71 P) .nil .nil) .nil))))))
noncomputable def n19 (i : Nat) (P : Params) : Obj := @Nat.rec (fun _ => Obj) (o_73 P) (fun j _ => nsC (nth cs19 j) (Nat.add (nat_lit 1639) (Nat.mul (nat_lit 3) j)) P) i
noncomputable def T19 (i : Nat) (P : Params) : BT := (.node (o_0 P) (.node (o_1 P) (.node (n19 i P) (.node (o_7 P) (.node (o_7 P) (.node (o_29 P) (.node (o_7 P) .nil .nil) (.node (l19 i) .nil .nil)) (.node (o_8 P) (.node (o_58 P) .nil .nil) .nil)) (.node (o_22 P) (.node (o_7 P) (.node (o_53 P) .nil .nil) .nil) (.node (o_44 P) (.node (o_66 P) .nil .nil) .nil))) (.node (o_27 P) (.node (o_18 P) (.node (o_7 P) (.node (o_7 P) .nil .nil) (.node (b19 i) .nil .nil)) (.node (o_42 P) (.node (o_61 P) .nil .nil) .nil)) (.node (o_26 P) (.node (o_37 P) (.node (o_8 P) .nil .nil) .nil) (.node (o_47 P) (.node (o_69 P) .nil .nil) .nil)))) (.node (o_5 P) (.node (o_9 P) (.node (o_16 P) (.node (o_8 P) (.node (o_50 P) .nil .nil) (.node (o_7 P) .nil .nil)) (.node (o_7 P) (.node (o_60 P) .nil .nil) .nil)) (.node (o_24 P) (.node (o_36 P) (.node (o_55 P) .nil .nil) .nil) (.node (o_45 P) (.node (o_68 P) .nil .nil) .nil))) (.node (o_13 P) (.node (o_20 P) (.node (o_34 P) (.node (o_52 P) .nil .nil) .nil) (.node (o_7 P) (.node (o_63 P) .nil .nil) .nil)) (.node (o_31 P) (.node (o_39 P) (.node (o_7 P) .nil .nil) .nil) (.node (o_8 P) (.node (o_77 P) .nil .nil) .nil))))) (.node (o_2 P) (.node (o_4 P) (.node (o_8 P) (.node (o_15 P) (.node (o_7 P) (.node (o_49 P) .nil .nil) (.node (o_75 P) .nil .nil)) (.node (o_40 P) (.node (o_59 P) .nil .nil) .nil)) (.node (o_23 P) (.node (o_8 P) (.node (o_54 P) .nil .nil) .nil) (.node (o_7 P) (.node (o_67 P) .nil .nil) .nil))) (.node (o_12 P) (.node (o_19 P) (.node (o_33 P) (.node (o_8 P) .nil .nil) .nil) (.node (o_43 P) (.node (o_62 P) .nil .nil) .nil)) (.node (o_7 P) (.node (o_38 P) (.node (o_56 P) .nil .nil) .nil) (.node (o_7 P) (.node (o_71 P) .nil .nil) .nil)))) (.node (o_6 P) (.node (o_10 P) (.node (o_17 P) (.node (o_32 P) (.node (o_51 P) .nil .nil) (.node (o_76 P) .nil .nil)) (.node (o_41 P) (.node (o_6 P) .nil .nil) .nil)) (.node (o_25 P) (.node (o_7 P) (.node (o_7 P) .nil .nil) .nil) (.node (o_46 P) (.node (o_7 P) .nil .nil) .nil))) (.node (o_14 P) (.node (o_21 P) (.node (o_35 P) (.node (o_7 P) .nil .nil) .nil) (.node (o_8 P) (.node (o_65 P) .nil .nil) .nil)) (.node (o_28 P) (.node (o_7 P) (.node (o_57 P) .nil .nil) .nil) (.node (o_48 P) (.node (o_71 P) .nil .nil) .nil))))))
noncomputable def env0 : Env := { scope := Q.main.scope, locals := mainNs, globals := mainNs, cells := [], code := .ref (nat_lit 30), frame := some (nat_lit 31) }
noncomputable def cd0 : Code := .body bq env0
noncomputable def q0 : Pos := ⟨nat_lit 0, nat_lit 0, nat_lit 0, nat_lit 0⟩
noncomputable def ann0 : Option Value := some (.ref (nat_lit 6))
noncomputable def pieceT (l : List Stmt) (pos : Pos) : Thread := ⟨(PySem.W.Fast.tw12563942051412417395 l env0).wrap doneF deadEnd id id, cd0, pos, [topFrame q0]⟩
theorem pieceT_eq (l : List Stmt) (pos : Pos) : piecesOf l env0 cd0 pos [topFrame q0] = pieceT l pos := by
  unfold pieceT piecesOf
  rw [PySem.W.Fast.te12563942051412417395]
noncomputable def RunT (w : World) (n : Nat) (s : SharedT) (t : Thread) := PySem.W.Fast.tw10110043849684766642 PySem.W.Fast.tw14364793385576792824 Q w (nat_lit 28) ann0 (nat_lit 1) n s t
noncomputable def GoT (w : World) (n : Nat) (s : SharedT) (t : Thread) := PySem.W.Fast.tw10295753902157049106 PySem.W.Fast.tw14364793385576792824 Q w (nat_lit 28) ann0 (nat_lit 1) n s t
theorem run_of {w : World} {n : Nat} {s s' : SharedT} {t : Thread} {f : Flow} {c : Code} {q : Pos} (h : RunT w n s t = some (f, s', c, q)) : segRun treeTable Q w (nat_lit 28) ann0 (nat_lit 1) n s.abs t = some (f, s'.abs, c, q) := by
  refine segRun_of ?_
  rw [PySem.W.Fast.te10110043849684766642, PySem.W.Fast.te14364793385576792824]
  exact h
theorem go_of {w : World} {n : Nat} {s s' : SharedT} {t t' : Thread} (h : GoT w n s t = some (s', t')) : segGo treeTable Q w (nat_lit 28) ann0 (nat_lit 1) n s.abs t = some (s'.abs, t') := by
  refine segGo_of ?_
  rw [PySem.W.Fast.te10295753902157049106, PySem.W.Fast.te14364793385576792824]
  exact h
theorem ga (w : World) (os : OsState) : RunT w (nat_lit 310) (Sb w.params os) (pieceT [qs 0, qs 1, qs 2, qs 3, qs 4, qs 5, qs 6, qs 7, qs 8] q0) = some (.next, S1 w.params os, cd0, ⟨53, 0, 53, 10⟩) := by kernel_rfl
noncomputable def thOf (x : Option (SharedT × Thread)) (d : Thread) : Thread := @Option.rec (SharedT × Thread) (fun _ => Thread) d (fun p => p.2) x
noncomputable def ps9 : Thread := pieceT [qs 9] ⟨53, 0, 53, 10⟩
abbrev rowA : String := "comprehension-iter-twice"
abbrev rowB : String := "special-get-raises"
noncomputable def wf (w : World) : World := (w.withFollow "comprehension-iter-twice" true).withFollow "special-get-raises" false
noncomputable def th9 (w : World) (os : OsState) : Thread := thOf (GoT (wf w) (nat_lit 79) (S1 w.params os) ps9) ps9
noncomputable def S9 (i : Nat) (P : Params) (os : OsState) : SharedT := ⟨T9 i P, nat_lit 90, life0, .mk [], drawn0, Nat.add (nat_lit 390) (Nat.mul (nat_lit 4) i), os⟩
def pA9 (n : Nat) (w : World) : Prop := ∀ os, GoT w n (S1 w.params os) ps9 = some (S9 (nat_lit 1) w.params os, th9 w os)
theorem a9f : ∀ (w : World), pA9 (nat_lit 89) (w.withFollow "comprehension-iter-twice" false) :=
  byRow2 "special-get-raises" (P := fun w => pA9 (nat_lit 89) (w.withFollow "comprehension-iter-twice" false)) (fun w os => by kernel_rfl) (fun w os => by kernel_rfl)
theorem a9t : ∀ (w : World), pA9 (nat_lit 79) (w.withFollow "comprehension-iter-twice" true) :=
  byRow2 "special-get-raises" (P := fun w => pA9 (nat_lit 79) (w.withFollow "comprehension-iter-twice" true)) (fun w os => by kernel_rfl) (fun w os => by kernel_rfl)
def pL9 (i j n : Nat) (w : World) : Prop := ∀ os, GoT w n (S9 i w.params os) (th9 w os) = some (S9 j w.params os, th9 w os)
theorem e9 : ∀ (w : World) (os : OsState), RunT w (nat_lit 40) (S9 (nat_lit 256) w.params os) (th9 w os) = some (.next, S2 w.params os, cd0, ⟨54, 0, 54, 11⟩) := fun w os => by kernel_rfl
noncomputable def wb (w : World) : World := w.withFollow "special-get-raises" false
noncomputable def ps17 : Thread := pieceT [qs 17] ⟨61, 0, 61, 8⟩
noncomputable def th17 (w : World) (os : OsState) : Thread := thOf (GoT (wb w) (nat_lit 89) (S3 w.params os) ps17) ps17
noncomputable def S17 (i : Nat) (P : Params) (os : OsState) : SharedT := ⟨T17 i P, nat_lit 97, life0, .mk [], drawn0, Nat.add (nat_lit 1434) (Nat.mul (nat_lit 3) i), os⟩
def pA17 (n : Nat) (w : World) : Prop := ∀ os, GoT w n (S3 w.params os) ps17 = some (S17 (nat_lit 1) w.params os, th17 w os)
theorem a17 : ∀ (w : World), pA17 (nat_lit 89) w := byRow2 "special-get-raises" (fun w os => by kernel_rfl) (fun w os => by kernel_rfl)
def pL17 (i j n : Nat) (w : World) : Prop := ∀ os, GoT w n (S17 i w.params os) (th17 w os) = some (S17 j w.params os, th17 w os)
theorem e17 : ∀ (w : World) (os : OsState), RunT w (nat_lit 18) (S17 (nat_lit 67) w.params os) (th17 w os) = some (.next, S4 w.params os, cd0, ⟨62, 9, 62, 74⟩) := fun w os => by kernel_rfl
noncomputable def ps19 : Thread := pieceT [qs 19] ⟨64, 0, 64, 28⟩
noncomputable def th19 (w : World) (os : OsState) : Thread := thOf (GoT (wb w) (nat_lit 55) (S5 w.params os) ps19) ps19
noncomputable def S19 (i : Nat) (P : Params) (os : OsState) : SharedT := ⟨T19 i P, nat_lit 100, life0, .mk [], drawn0, Nat.add (nat_lit 1639) (Nat.mul (nat_lit 3) i), os⟩
def pA19 (n : Nat) (w : World) : Prop := ∀ os, GoT w n (S5 w.params os) ps19 = some (S19 (nat_lit 1) w.params os, th19 w os)
theorem a19 : ∀ (w : World), pA19 (nat_lit 55) w := byRow2 "special-get-raises" (fun w os => by kernel_rfl) (fun w os => by kernel_rfl)
def pL19 (i j n : Nat) (w : World) : Prop := ∀ os, GoT w n (S19 i w.params os) (th19 w os) = some (S19 j w.params os, th19 w os)
theorem e19 : ∀ (w : World) (os : OsState), RunT w (nat_lit 18) (S19 (nat_lit 95) w.params os) (th19 w os) = some (.next, S6 w.params os, cd0, ⟨65, 9, 65, 110⟩) := fun w os => by kernel_rfl
theorem g2 (w : World) (os : OsState) : RunT w (nat_lit 109) (S2 w.params os) (pieceT [qs 10, qs 11, qs 12, qs 13, qs 14, qs 15, qs 16] ⟨54, 0, 54, 11⟩) = some (.next, S3 w.params os, cd0, ⟨61, 0, 61, 8⟩) := by kernel_rfl
theorem g4 (w : World) (os : OsState) : RunT w (nat_lit 25) (S4 w.params os) (pieceT [qs 18] ⟨62, 9, 62, 74⟩) = some (.next, S5 w.params os, cd0, ⟨64, 0, 64, 28⟩) := by kernel_rfl
theorem g6 : ∀ (w : World), ∀ os : OsState, RunT w (nat_lit 375) (S6 w.params os) (pieceT [qs 20, qs 21, qs 22, qs 23, qs 24, qs 25, qs 26, qs 27, qs 28, qs 29, qs 30] ⟨65, 9, 65, 110⟩) = some (.next, S7 w.params os, cd0, ⟨95, 0, 107, 22⟩) :=
  byRow2 "special-get-raises" (fun w os => by kernel_rfl) (fun w os => by kernel_rfl)
theorem g7 (w : World) (os : OsState) : RunT w (nat_lit 53) (S7 w.params os) (pieceT [qs 31, qs 32] ⟨95, 0, 107, 22⟩) = some (.next, S8 w.params os, cd0, ⟨120, 0, 175, 21⟩) := by kernel_rfl
theorem gpre (w : World) (os : OsState) : PySem.W.Fast.tw15667345088766844465 PySem.W.Fast.tw14364793385576792824 Q w (nat_lit 28) ann0 (nat_lit 12) (W0 w.params os) (topStub Q) = some (Wa w.params os, ⟨PySem.W.Fast.tw11892475500146522536 PySem.W.Fast.tw14364793385576792824 cd0, cd0, q0, [topFrame q0]⟩) := by kernel_rfl
theorem gblock (w : World) (os : OsState) : segRun treeTable Q w (nat_lit 28) ann0 (nat_lit 1) (nat_lit 1) (Wa w.params os) (blockOf bq env0 cd0 q0 [topFrame q0]) = some (.next, (Sb w.params os).abs, cd0, q0) := by kernel_rfl
theorem gfin (w : World) (os : OsState) : PySem.W.Fast.tw14082659384304107361 PySem.W.Fast.tw14364793385576792824 Q w (nat_lit 28) ann0 (nat_lit 2) (S8 w.params os).abs ⟨doneF .next, cd0, ⟨120, 0, 175, 21⟩, [topFrame q0]⟩ = some (W8 w.params os) := by kernel_rfl
noncomputable def st0 := PySem.W.Fast.tw1435165496053646825 (opening Q)
theorem gopen (w : World) : PySem.W.Fast.tw10274390034422433532 PySem.W.Fast.tw14364793385576792824 (opening Q) w (nat_lit 800) st0.1 st0.2 = some ⟨absHeap (Te w.params) (nat_lit 28) life0, .mk [], drawn0, nat_lit 276, st0.1.os⟩ := by kernel_rfl
theorem gfence (w : World) (os : OsState) : (PySem.W.Fast.tw14289696077712309145 Q ⟨absHeap (Te w.params) (nat_lit 28) life0, .mk [], drawn0, nat_lit 276, os⟩).map (fun s => (s.heap, s.gens, s.drawn, s.toks)) = some (H0 w.params, .mk [], drawn0, nat_lit 276) := by kernel_rfl
noncomputable def pqs (p : Program) (i : Nat) : Stmt := nthS (behindTheImports p) i
noncomputable def KG (f : String → Str) (p : Program) (P : Params) : Frag := (nat_lit 2, ⟨.none, none, (.dict #[⟨(PyData.keyHash P (f "\x69mport.loaded._sre")), (.str (f "\x69mport.loaded._sre") 183), (.bool true)⟩, ⟨(PyData.keyHash P (f "class._frozen_importlib.BuiltinImporter")), (.str (f "class._frozen_importlib.BuiltinImporter") 185), (.ref 14)⟩, ⟨(PyData.keyHash P (f "watched.\x69mport")), (.str (f "watched.\x69mport") 206), (.ref 18)⟩, ⟨(PyData.keyHash P (f "class._frozen_importlib.ModuleSpec")), (.str (f "class._frozen_importlib.ModuleSpec") 216), (.ref 22)⟩, ⟨(PyData.keyHash P (f "sys.modules.booked-epoch")), (.str (f "sys.modules.booked-epoch") 245), (.int 3 0)⟩, ⟨(PyData.keyHash P (f "\x69mport.later-laid._sre")), (.str (f "\x69mport.later-laid._sre") 270), (.bool true)⟩, ⟨(PyData.keyHash P (f "watched.library")), (.str (f "watched.library") 272), (.ref 27)⟩, ⟨(PyData.keyHash P (f "watched.library-objects")), (.str (f "watched.library-objects") 0), (.str (f "\x0c") 0)⟩, ⟨(PyData.keyHash P (f "watched.library-deep._sre")), (.str (f "watched.library-deep._sre") 273), (.str (f "\x04\x00\x00\x0b\x04\x00\x00\x0b\x04\x00\x00\x03\x04\x00\x00\x0b\x08\x04dict\x02") 0)⟩] 9), #[]⟩) ::
(nat_lit 3, ⟨(.type "dict"), none, (.dict #[⟨(PyData.keyHash P (f "__name__")), (.str (f "__name__") 165), (.str (f "law_ny0134_01") 1964)⟩, ⟨(PyData.keyHash P (f "__doc__")), (.str (f "__doc__") 166), .none⟩, ⟨(PyData.keyHash P (f "__package__")), (.str (f "__package__") 167), .none⟩, ⟨(PyData.keyHash P (f "__loader__")), (.str (f "__loader__") 168), (.builtin "__main__.__loader__#opaque")⟩, ⟨(PyData.keyHash P (f "__spec__")), (.str (f "__spec__") 169), .none⟩, ⟨(PyData.keyHash P (f "__annotations__")), (.str (f "__annotations__") 170), (.ref 6)⟩, ⟨(PyData.keyHash P (f "__builtins__")), (.str (f "__builtins__") 171), (.ref 4)⟩, ⟨(PyData.keyHash P (f "__file__")), (.str (f "__file__") 173), (.str (f "/claim/cut.py") 172)⟩, ⟨(PyData.keyHash P (f "__cached__")), (.str (f "__cached__") 174), .none⟩, ⟨(PyData.keyHash P (f "_sre")), (.str (f "_sre") 275), (.ref 12)⟩, ⟨(PyData.keyHash P (f "heappush")), (.str (f "heappush") 291), (.ref 38)⟩, ⟨(PyData.keyHash P (f "heappop")), (.str (f "heappop") 300), (.ref 45)⟩, ⟨(PyData.keyHash P (f "heapreplace")), (.str (f "heapreplace") 309), (.ref 52)⟩, ⟨(PyData.keyHash P (f "heappushpop")), (.str (f "heappushpop") 317), (.ref 59)⟩, ⟨(PyData.keyHash P (f "heapify")), (.str (f "heapify") 326), (.ref 66)⟩, ⟨(PyData.keyHash P (f "_siftdown")), (.str (f "_siftdown") 338), (.ref 73)⟩, ⟨(PyData.keyHash P (f "_siftup")), (.str (f "_siftup") 351), (.ref 80)⟩, ⟨(PyData.keyHash P (f "_twin_re_1")), (.str (f "_twin_re_1") 386), (.ref 85)⟩, ⟨(PyData.keyHash P (f "_QUOPRI_MAP")), (.str (f "_QUOPRI_MAP") 1414), (.ref 88)⟩, ⟨(PyData.keyHash P (f "_QUOPRI_HEADER_MAP")), (.str (f "_QUOPRI_HEADER_MAP") 1415), (.ref 93)⟩, ⟨(PyData.keyHash P (f "_QUOPRI_BODY_MAP")), (.str (f "_QUOPRI_BODY_MAP") 1416), (.ref 95)⟩, ⟨(PyData.keyHash P (f "ascii_lowercase")), (.str (f "ascii_lowercase") 1418), (.str (f "abcdefghijklmnopqrstuvwxyz") 1417)⟩, ⟨(PyData.keyHash P (f "ascii_uppercase")), (.str (f "ascii_uppercase") 1420), (.str (f "ABCDEFGHIJKLMNOPQRSTUVWXYZ") 1419)⟩, ⟨(PyData.keyHash P (f "ascii_letters")), (.str (f "ascii_letters") 1422), (.str (f "abcdefghijklmnopqrstuvwxyzABCDEFGHIJKLMNOPQRSTUVWXYZ") 1421)⟩, ⟨(PyData.keyHash P (f "digits")), (.str (f "digits") 1424), (.str (f "0123456789") 1423)⟩, ⟨(PyData.keyHash P (f "unquote")), (.str (f "unquote") 1930), (.ref 108)⟩, ⟨(PyData.keyHash P (f "header_encode")), (.str (f "header_encode") 1940), (.ref 116)⟩, ⟨(PyData.keyHash P (f "_QUOPRI_BODY_ENCODE_MAP")), (.str (f "_QUOPRI_BODY_ENCODE_MAP") 1941), (.ref 118)⟩, ⟨(PyData.keyHash P (f "_unquote_match")), (.str (f "_unquote_match") 1956), (.ref 128)⟩, ⟨(PyData.keyHash P (f "header_decode")), (.str (f "header_decode") 1963), (.ref 135)⟩, ⟨(PyData.keyHash P (f "_law_octets")), (.str (f "_law_octets") 1975), (.ref 142)⟩, ⟨(PyData.keyHash P (f "_law_as_it_is")), (.str (f "_law_as_it_is") 1982), (.ref 149)⟩, ⟨(PyData.keyHash P (f "_law_word")), (.str (f "_law_word") 1993), (.ref 156)⟩, ⟨(PyData.keyHash P (f "_law_ranks")), (.str (f "_law_ranks") 1999), (.ref 161)⟩, ⟨(PyData.keyHash P (f "law")), (.str (f "law") 2005), (.ref 166)⟩] 37), #[]⟩) ::
(nat_lit 6, ⟨(.type "dict"), none, (.dict #[] 0), #[]⟩) ::
(nat_lit 11, ⟨(.type "dict"), none, (.dict #[⟨(PyData.keyHash P (f "__name__")), (.str (f "__name__") 247), (.str (f "_sre") 246)⟩, ⟨(PyData.keyHash P (f "__doc__")), (.str (f "__doc__") 248), .none⟩, ⟨(PyData.keyHash P (f "__package__")), (.str (f "__package__") 250), (.str (f "") 249)⟩, ⟨(PyData.keyHash P (f "__loader__")), (.str (f "__loader__") 251), (.builtin "off-the-table:_sre.__loader__:shared#opaque")⟩, ⟨(PyData.keyHash P (f "__spec__")), (.str (f "__spec__") 252), (.builtin "off-the-table:_sre.__spec__:shared#opaque")⟩, ⟨(PyData.keyHash P (f "compile")), (.str (f "compile") 253), (.builtin "_sre.compile")⟩, ⟨(PyData.keyHash P (f "template")), (.str (f "template") 254), (.builtin "off-the-table:_sre.template:shared#opaque")⟩, ⟨(PyData.keyHash P (f "getcodesize")), (.str (f "getcodesize") 255), (.builtin "off-the-table:_sre.getcodesize:shared#opaque")⟩, ⟨(PyData.keyHash P (f "ascii_iscased")), (.str (f "ascii_iscased") 256), (.builtin "off-the-table:_sre.ascii_iscased:shared#opaque")⟩, ⟨(PyData.keyHash P (f "unicode_iscased")), (.str (f "unicode_iscased") 257), (.builtin "off-the-table:_sre.unicode_iscased:shared#opaque")⟩, ⟨(PyData.keyHash P (f "ascii_tolower")), (.str (f "ascii_tolower") 258), (.builtin "off-the-table:_sre.ascii_tolower:shared#opaque")⟩, ⟨(PyData.keyHash P (f "unicode_tolower")), (.str (f "unicode_tolower") 259), (.builtin "off-the-table:_sre.unicode_tolower:shared#opaque")⟩, ⟨(PyData.keyHash P (f "MAGIC")), (.str (f "MAGIC") 261), (.int 20230612 260)⟩, ⟨(PyData.keyHash P (f "CODESIZE")), (.str (f "CODESIZE") 263), (.int 4 262)⟩, ⟨(PyData.keyHash P (f "MAXREPEAT")), (.str (f "MAXREPEAT") 265), (.int 4294967295 264)⟩, ⟨(PyData.keyHash P (f "MAXGROUPS")), (.str (f "MAXGROUPS") 267), (.int 1073741823 266)⟩, ⟨(PyData.keyHash P (f "copyright")), (.str (f "copyright") 269), (.str (f " SRE 2.2.2 Copyright (c) 1997-2002 by Secret Labs AB ") 268)⟩] 17), #[]⟩) ::
(nat_lit 12, ⟨(.type "module"), (some 11), .plain, #[]⟩) ::
(nat_lit 32, ⟨(.type "tuple"), none, (.seq #[] 0), #[]⟩) ::
(nat_lit 34, ⟨(.type "tuple"), none, (.seq #[(.str (f "heap") 287), (.str (f "item") 288)] 0), #[]⟩) ::
(nat_lit 35, ⟨(.type "tuple"), none, (.seq #[] 0), #[]⟩) ::
(nat_lit 37, ⟨(.type "code"), none, (.fields #[(.str (f "heappush") 284), (.str (f "heappush") 285), (.str (f "/claim/cut.py") 286), (.int 3 0), (.int 2 0), (.int 0 0), (.int 0 0), (.int 3 0), (.ref 32), (.bool true), (.int 276 0), (.ref 33), .none, (.ref 34), (.ref 35), (.ref 36), (.int 289 0), (.int 3 0), (.str (f "/claim/cut.py") 290)]), #[]⟩) ::
(nat_lit 38, ⟨(.type "function"), none, (.func ⟨(f "heappush"), (f "heappush"), (fA (pqs p 1)), .stmts (fB (pqs p 1)), (fC (pqs p 1)), 3, [], .none, .none, .none, (.str (f "cpy313.heapq") 282), none, (.ref 37), .none, 0⟩), #[]⟩) ::
(nat_lit 39, ⟨(.type "tuple"), none, (.seq #[] 0), #[]⟩) ::
(nat_lit 41, ⟨(.type "tuple"), none, (.seq #[(.str (f "heap") 295), (.str (f "lastelt") 296), (.str (f "returnitem") 297)] 0), #[]⟩) ::
(nat_lit 42, ⟨(.type "tuple"), none, (.seq #[] 0), #[]⟩) ::
(nat_lit 44, ⟨(.type "code"), none, (.fields #[(.str (f "heappop") 292), (.str (f "heappop") 293), (.str (f "/claim/cut.py") 294), (.int 6 0), (.int 1 0), (.int 0 0), (.int 0 0), (.int 3 0), (.ref 39), (.bool true), (.int 276 0), (.ref 40), .none, (.ref 41), (.ref 42), (.ref 43), (.int 298 0), (.int 6 0), (.str (f "/claim/cut.py") 299)]), #[]⟩) ::
(nat_lit 45, ⟨(.type "function"), none, (.func ⟨(f "heappop"), (f "heappop"), (fA (pqs p 2)), .stmts (fB (pqs p 2)), (fC (pqs p 2)), 3, [], .none, .none, .none, (.str (f "cpy313.heapq") 282), none, (.ref 44), .none, 0⟩), #[]⟩) ::
(nat_lit 46, ⟨(.type "tuple"), none, (.seq #[] 0), #[]⟩) ::
(nat_lit 48, ⟨(.type "tuple"), none, (.seq #[(.str (f "heap") 304), (.str (f "item") 305), (.str (f "returnitem") 306)] 0), #[]⟩) ::
(nat_lit 49, ⟨(.type "tuple"), none, (.seq #[] 0), #[]⟩) ::
(nat_lit 51, ⟨(.type "code"), none, (.fields #[(.str (f "heapreplace") 301), (.str (f "heapreplace") 302), (.str (f "/claim/cut.py") 303), (.int 14 0), (.int 2 0), (.int 0 0), (.int 0 0), (.int 3 0), (.ref 46), (.bool true), (.int 276 0), (.ref 47), .none, (.ref 48), (.ref 49), (.ref 50), (.int 307 0), (.int 14 0), (.str (f "/claim/cut.py") 308)]), #[]⟩) ::
(nat_lit 52, ⟨(.type "function"), none, (.func ⟨(f "heapreplace"), (f "heapreplace"), (fA (pqs p 3)), .stmts (fB (pqs p 3)), (fC (pqs p 3)), 3, [], .none, .none, .none, (.str (f "cpy313.heapq") 282), none, (.ref 51), .none, 0⟩), #[]⟩) ::
(nat_lit 53, ⟨(.type "tuple"), none, (.seq #[] 0), #[]⟩) ::
(nat_lit 55, ⟨(.type "tuple"), none, (.seq #[(.str (f "heap") 313), (.str (f "item") 314)] 0), #[]⟩) ::
(nat_lit 56, ⟨(.type "tuple"), none, (.seq #[] 0), #[]⟩) ::
(nat_lit 58, ⟨(.type "code"), none, (.fields #[(.str (f "heappushpop") 310), (.str (f "heappushpop") 311), (.str (f "/claim/cut.py") 312), (.int 19 0), (.int 2 0), (.int 0 0), (.int 0 0), (.int 3 0), (.ref 53), (.bool true), (.int 276 0), (.ref 54), .none, (.ref 55), (.ref 56), (.ref 57), (.int 315 0), (.int 19 0), (.str (f "/claim/cut.py") 316)]), #[]⟩) ::
(nat_lit 59, ⟨(.type "function"), none, (.func ⟨(f "heappushpop"), (f "heappushpop"), (fA (pqs p 4)), .stmts (fB (pqs p 4)), (fC (pqs p 4)), 3, [], .none, .none, .none, (.str (f "cpy313.heapq") 282), none, (.ref 58), .none, 0⟩), #[]⟩) ::
(nat_lit 60, ⟨(.type "tuple"), none, (.seq #[] 0), #[]⟩) ::
(nat_lit 62, ⟨(.type "tuple"), none, (.seq #[(.str (f "x") 321), (.str (f "n") 322), (.str (f "i") 323)] 0), #[]⟩) ::
(nat_lit 63, ⟨(.type "tuple"), none, (.seq #[] 0), #[]⟩) ::
(nat_lit 65, ⟨(.type "code"), none, (.fields #[(.str (f "heapify") 318), (.str (f "heapify") 319), (.str (f "/claim/cut.py") 320), (.int 24 0), (.int 1 0), (.int 0 0), (.int 0 0), (.int 3 0), (.ref 60), (.bool true), (.int 276 0), (.ref 61), .none, (.ref 62), (.ref 63), (.ref 64), (.int 324 0), (.int 24 0), (.str (f "/claim/cut.py") 325)]), #[]⟩) ::
(nat_lit 66, ⟨(.type "function"), none, (.func ⟨(f "heapify"), (f "heapify"), (fA (pqs p 5)), .stmts (fB (pqs p 5)), (fC (pqs p 5)), 3, [], .none, .none, .none, (.str (f "cpy313.heapq") 282), none, (.ref 65), .none, 0⟩), #[]⟩) ::
(nat_lit 67, ⟨(.type "tuple"), none, (.seq #[] 0), #[]⟩) ::
(nat_lit 69, ⟨(.type "tuple"), none, (.seq #[(.str (f "heap") 330), (.str (f "startpos") 331), (.str (f "pos") 332), (.str (f "newitem") 333), (.str (f "parentpos") 334), (.str (f "parent") 335)] 0), #[]⟩) ::
(nat_lit 70, ⟨(.type "tuple"), none, (.seq #[] 0), #[]⟩) ::
(nat_lit 72, ⟨(.type "code"), none, (.fields #[(.str (f "_siftdown") 327), (.str (f "_siftdown") 328), (.str (f "/claim/cut.py") 329), (.int 28 0), (.int 3 0), (.int 0 0), (.int 0 0), (.int 3 0), (.ref 67), (.bool true), (.int 276 0), (.ref 68), .none, (.ref 69), (.ref 70), (.ref 71), (.int 336 0), (.int 28 0), (.str (f "/claim/cut.py") 337)]), #[]⟩) ::
(nat_lit 73, ⟨(.type "function"), none, (.func ⟨(f "_siftdown"), (f "_siftdown"), (fA (pqs p 6)), .stmts (fB (pqs p 6)), (fC (pqs p 6)), 3, [], .none, .none, .none, (.str (f "cpy313.heapq") 282), none, (.ref 72), .none, 0⟩), #[]⟩) ::
(nat_lit 74, ⟨(.type "tuple"), none, (.seq #[] 0), #[]⟩) ::
(nat_lit 76, ⟨(.type "tuple"), none, (.seq #[(.str (f "heap") 342), (.str (f "pos") 343), (.str (f "endpos") 344), (.str (f "startpos") 345), (.str (f "newitem") 346), (.str (f "childpos") 347), (.str (f "rightpos") 348)] 0), #[]⟩) ::
(nat_lit 77, ⟨(.type "tuple"), none, (.seq #[] 0), #[]⟩) ::
(nat_lit 79, ⟨(.type "code"), none, (.fields #[(.str (f "_siftup") 339), (.str (f "_siftup") 340), (.str (f "/claim/cut.py") 341), (.int 39 0), (.int 2 0), (.int 0 0), (.int 0 0), (.int 3 0), (.ref 74), (.bool true), (.int 276 0), (.ref 75), .none, (.ref 76), (.ref 77), (.ref 78), (.int 349 0), (.int 39 0), (.str (f "/claim/cut.py") 350)]), #[]⟩) ::
(nat_lit 80, ⟨(.type "function"), none, (.func ⟨(f "_siftup"), (f "_siftup"), (fA (pqs p 7)), .stmts (fB (pqs p 7)), (fC (pqs p 7)), 3, [], .none, .none, .none, (.str (f "cpy313.heapq") 282), none, (.ref 79), .none, 0⟩), #[]⟩) ::
(nat_lit 84, ⟨(.type "tuple"), none, (.seq #[(.int 14 0), (.int 8 0), (.int 1 0), (.int 3 0), (.int 3 0), (.int 1 0), (.int 1 0), (.int 61 0), (.int 0 0), (.int 16 0), (.int 61 0), (.int 24 0), (.int 16 0), (.int 2 0), (.int 2 0), (.int 13 0), (.int 11 0), (.int 9 0), (.int 0 0), (.int 67043328 0), (.int 126 0), (.int 126 0), (.int 0 0), (.int 0 0), (.int 0 0), (.int 0 0), (.int 0 0), (.int 1 0), (.int 1 0)] 0), #[]⟩) ::
(nat_lit 85, ⟨(.type "re.Pattern"), none, (.fields #[(.str (f "=[a-fA-F0-9]{2}") 353), (.int 256 385), (.int 0 0), .none, .none, (.ref 84), (.int 0 0)]), #[]⟩) ::
(nat_lit 88, ⟨(.type "list"), none, (.seq (List.toArray ((.str (f "=00") 393) :: (.str (f "=01") 397) :: (.str (f "=02") 401) :: (.str (f "=03") 405) :: (.str (f "=04") 409) :: (.str (f "=05") 413) :: (.str (f "=06") 417) :: (.str (f "=07") 421) :: (.str (f "=08") 425) :: (.str (f "=09") 429) :: (.str (f "=0A") 433) :: (.str (f "=0B") 437) :: (.str (f "=0C") 441) :: (.str (f "=0D") 445) :: (.str (f "=0E") 449) :: (.str (f "=0F") 453) :: (.str (f "=10") 457) :: (.str (f "=11") 461) :: (.str (f "=12") 465) :: (.str (f "=13") 469) :: (.str (f "=14") 473) :: (.str (f "=15") 477) :: (.str (f "=16") 481) :: (.str (f "=17") 485) :: (.str (f "=18") 489) :: (.str (f "=19") 493) :: (.str (f "=1A") 497) :: (.str (f "=1B") 501) :: (.str (f "=1C") 505) :: (.str (f "=1D") 509) :: (.str (f "=1E") 513) :: (.str (f "=1F") 517) :: (.str (f "=20") 521) :: (.str (f "=21") 525) :: (.str (f "=22") 529) :: (.str (f "=23") 533) :: (.str (f "=24") 537) :: (.str (f "=25") 541) :: (.str (f "=26") 545) :: (.str (f "=27") 549) :: (.str (f "=28") 553) :: (.str (f "=29") 557) :: (.str (f "=2A") 561) :: (.str (f "=2B") 565) :: (.str (f "=2C") 569) :: (.str (f "=2D") 573) :: (.str (f "=2E") 577) :: (.str (f "=2F") 581) :: (.str (f "=30") 585) :: (.str (f "=31") 589) :: (.str (f "=32") 593) :: (.str (f "=33") 597) :: (.str (f "=34") 601) :: (.str (f "=35") 605) :: (.str (f "=36") 609) :: (.str (f "=37") 613) :: (.str (f "=38") 617) :: (.str (f "=39") 621) :: (.str (f "=3A") 625) :: (.str (f "=3B") 629) :: (.str (f "=3C") 633) :: (.str (f "=3D") 637) :: (.str (f "=3E") 641) :: (.str (f "=3F") 645) :: (.str (f "=40") 649) :: (.str (f "=41") 653) :: (.str (f "=42") 657) :: (.str (f "=43") 661) :: (.str (f "=44") 665) :: (.str (f "=45") 669) :: (.str (f "=46") 673) :: (.str (f "=47") 677) :: (.str (f "=48") 681) :: (.str (f "=49") 685) :: (.str (f "=4A") 689) :: (.str (f "=4B") 693) :: (.str (f "=4C") 697) :: (.str (f "=4D") 701) :: (.str (f "=4E") 705) :: (.str (f "=4F") 709) :: (.str (f "=50") 713) :: (.str (f "=51") 717) :: (.str (f "=52") 721) :: (.str (f "=53") 725) :: (.str (f "=54") 729) :: (.str (f "=55") 733) :: (.str (f "=56") 737) :: (.str (f "=57") 741) :: (.str (f "=58") 745) :: (.str (f "=59") 749) :: (.str (f "=5A") 753) :: (.str (f "=5B") 757) :: (.str (f "=5C") 761) :: (.str (f "=5D") 765) :: (.str (f "=5E") 769) :: (.str (f "=5F") 773) :: (.str (f "=60") 777) :: (.str (f "=61") 781) :: (.str (f "=62") 785) :: (.str (f "=63") 789) :: (.str (f "=64") 793) :: (.str (f "=65") 797) :: (.str (f "=66") 801) :: (.str (f "=67") 805) :: (.str (f "=68") 809) :: (.str (f "=69") 813) :: (.str (f "=6A") 817) :: (.str (f "=6B") 821) :: (.str (f "=6C") 825) :: (.str (f "=6D") 829) :: (.str (f "=6E") 833) :: (.str (f "=6F") 837) :: (.str (f "=70") 841) :: (.str (f "=71") 845) :: (.str (f "=72") 849) :: (.str (f "=73") 853) :: (.str (f "=74") 857) :: (.str (f "=75") 861) :: (.str (f "=76") 865) :: (.str (f "=77") 869) :: (.str (f "=78") 873) :: (.str (f "=79") 877) :: (.str (f "=7A") 881) :: (.str (f "=7B") 885) :: (.str (f "=7C") 889) :: (.str (f "=7D") 893) :: (.str (f "=7E") 897) :: (.str (f "=7F") 901) :: (.str (f "=80") 905) :: (.str (f "=81") 909) :: (.str (f "=82") 913) :: (.str (f "=83") 917) :: (.str (f "=84") 921) :: (.str (f "=85") 925) :: (.str (f "=86") 929) :: (.str (f "=87") 933) :: (.str (f "=88") 937) :: (.str (f "=89") 941) :: (.str (f "=8A") 945) :: (.str (f "=8B") 949) :: (.str (f "=8C") 953) :: (.str (f "=8D") 957) :: (.str (f "=8E") 961) :: (.str (f "=8F") 965) :: (.str (f "=90") 969) :: (.str (f "=91") 973) :: (.str (f "=92") 977) :: (.str (f "=93") 981) :: (.str (f "=94") 985) :: (.str (f "=95") 989) :: (.str (f "=96") 993) :: (.str (f "=97") 997) :: (.str (f "=98") 1001) :: (.str (f "=99") 1005) :: (.str (f "=9A") 1009) :: (.str (f "=9B") 1013) :: (.str (f "=9C") 1017) :: (.str (f "=9D") 1021) :: (.str (f "=9E") 1025) :: (.str (f "=9F") 1029) :: (.str (f "=A0") 1033) :: (.str (f "=A1") 1037) :: (.str (f "=A2") 1041) :: (.str (f "=A3") 1045) :: (.str (f "=A4") 1049) :: (.str (f "=A5") 1053) :: (.str (f "=A6") 1057) :: (.str (f "=A7") 1061) :: (.str (f "=A8") 1065) :: (.str (f "=A9") 1069) :: (.str (f "=AA") 1073) :: (.str (f "=AB") 1077) :: (.str (f "=AC") 1081) :: (.str (f "=AD") 1085) :: (.str (f "=AE") 1089) :: (.str (f "=AF") 1093) :: (.str (f "=B0") 1097) :: (.str (f "=B1") 1101) :: (.str (f "=B2") 1105) :: (.str (f "=B3") 1109) :: (.str (f "=B4") 1113) :: (.str (f "=B5") 1117) :: (.str (f "=B6") 1121) :: (.str (f "=B7") 1125) :: (.str (f "=B8") 1129) :: (.str (f "=B9") 1133) :: (.str (f "=BA") 1137) :: (.str (f "=BB") 1141) :: (.str (f "=BC") 1145) :: (.str (f "=BD") 1149) :: (.str (f "=BE") 1153) :: (.str (f "=BF") 1157) :: (.str (f "=C0") 1161) :: (.str (f "=C1") 1165) :: (.str (f "=C2") 1169) :: (.str (f "=C3") 1173) :: (.str (f "=C4") 1177) :: (.str (f "=C5") 1181) :: (.str (f "=C6") 1185) :: (.str (f "=C7") 1189) :: (.str (f "=C8") 1193) :: (.str (f "=C9") 1197) :: (.str (f "=CA") 1201) :: (.str (f "=CB") 1205) :: (.str (f "=CC") 1209) :: (.str (f "=CD") 1213) :: (.str (f "=CE") 1217) :: (.str (f "=CF") 1221) :: (.str (f "=D0") 1225) :: (.str (f "=D1") 1229) :: (.str (f "=D2") 1233) :: (.str (f "=D3") 1237) :: (.str (f "=D4") 1241) :: (.str (f "=D5") 1245) :: (.str (f "=D6") 1249) :: (.str (f "=D7") 1253) :: (.str (f "=D8") 1257) :: (.str (f "=D9") 1261) :: (.str (f "=DA") 1265) :: (.str (f "=DB") 1269) :: (.str (f "=DC") 1273) :: (.str (f "=DD") 1277) :: (.str (f "=DE") 1281) :: (.str (f "=DF") 1285) :: (.str (f "=E0") 1289) :: (.str (f "=E1") 1293) :: (.str (f "=E2") 1297) :: (.str (f "=E3") 1301) :: (.str (f "=E4") 1305) :: (.str (f "=E5") 1309) :: (.str (f "=E6") 1313) :: (.str (f "=E7") 1317) :: (.str (f "=E8") 1321) :: (.str (f "=E9") 1325) :: (.str (f "=EA") 1329) :: (.str (f "=EB") 1333) :: (.str (f "=EC") 1337) :: (.str (f "=ED") 1341) :: (.str (f "=EE") 1345) :: (.str (f "=EF") 1349) :: (.str (f "=F0") 1353) :: (.str (f "=F1") 1357) :: (.str (f "=F2") 1361) :: (.str (f "=F3") 1365) :: (.str (f "=F4") 1369) :: (.str (f "=F5") 1373) :: (.str (f "=F6") 1377) :: (.str (f "=F7") 1381) :: (.str (f "=F8") 1385) :: (.str (f "=F9") 1389) :: (.str (f "=FA") 1393) :: (.str (f "=FB") 1397) :: (.str (f "=FC") 1401) :: (.str (f "=FD") 1405) :: (.str (f "=FE") 1409) :: (.str (f "=FF") 1413) :: [])) 256), #[]⟩) ::
(nat_lit 93, ⟨(.type "list"), none, (.seq (List.toArray ((.str (f "=00") 393) :: (.str (f "=01") 397) :: (.str (f "=02") 401) :: (.str (f "=03") 405) :: (.str (f "=04") 409) :: (.str (f "=05") 413) :: (.str (f "=06") 417) :: (.str (f "=07") 421) :: (.str (f "=08") 425) :: (.str (f "=09") 429) :: (.str (f "=0A") 433) :: (.str (f "=0B") 437) :: (.str (f "=0C") 441) :: (.str (f "=0D") 445) :: (.str (f "=0E") 449) :: (.str (f "=0F") 453) :: (.str (f "=10") 457) :: (.str (f "=11") 461) :: (.str (f "=12") 465) :: (.str (f "=13") 469) :: (.str (f "=14") 473) :: (.str (f "=15") 477) :: (.str (f "=16") 481) :: (.str (f "=17") 485) :: (.str (f "=18") 489) :: (.str (f "=19") 493) :: (.str (f "=1A") 497) :: (.str (f "=1B") 501) :: (.str (f "=1C") 505) :: (.str (f "=1D") 509) :: (.str (f "=1E") 513) :: (.str (f "=1F") 517) :: (.str (f "_") 1635) :: (.str (f "!") 1439) :: (.str (f "=22") 529) :: (.str (f "=23") 533) :: (.str (f "=24") 537) :: (.str (f "=25") 541) :: (.str (f "=26") 545) :: (.str (f "=27") 549) :: (.str (f "=28") 553) :: (.str (f "=29") 557) :: (.str (f "*") 1442) :: (.str (f "+") 1445) :: (.str (f "=2C") 569) :: (.str (f "-") 1436) :: (.str (f "=2E") 577) :: (.str (f "/") 1448) :: (.str (f "0") 1607) :: (.str (f "1") 1610) :: (.str (f "2") 1613) :: (.str (f "3") 1616) :: (.str (f "4") 1619) :: (.str (f "5") 1622) :: (.str (f "6") 1625) :: (.str (f "7") 1628) :: (.str (f "8") 1631) :: (.str (f "9") 1634) :: (.str (f "=3A") 625) :: (.str (f "=3B") 629) :: (.str (f "=3C") 633) :: (.str (f "=3D") 637) :: (.str (f "=3E") 641) :: (.str (f "=3F") 645) :: (.str (f "=40") 649) :: (.str (f "A") 1529) :: (.str (f "B") 1532) :: (.str (f "C") 1535) :: (.str (f "D") 1538) :: (.str (f "E") 1541) :: (.str (f "F") 1544) :: (.str (f "G") 1547) :: (.str (f "H") 1550) :: (.str (f "I") 1553) :: (.str (f "J") 1556) :: (.str (f "K") 1559) :: (.str (f "L") 1562) :: (.str (f "M") 1565) :: (.str (f "N") 1568) :: (.str (f "O") 1571) :: (.str (f "P") 1574) :: (.str (f "Q") 1577) :: (.str (f "R") 1580) :: (.str (f "S") 1583) :: (.str (f "T") 1586) :: (.str (f "U") 1589) :: (.str (f "V") 1592) :: (.str (f "W") 1595) :: (.str (f "X") 1598) :: (.str (f "Y") 1601) :: (.str (f "Z") 1604) :: (.str (f "=5B") 757) :: (.str (f "=5C") 761) :: (.str (f "=5D") 765) :: (.str (f "=5E") 769) :: (.str (f "=5F") 773) :: (.str (f "=60") 777) :: (.str (f "a") 1451) :: (.str (f "b") 1454) :: (.str (f "c") 1457) :: (.str (f "d") 1460) :: (.str (f "e") 1463) :: (.str (f "f") 1466) :: (.str (f "g") 1469) :: (.str (f "h") 1472) :: (.str (f "i") 1475) :: (.str (f "j") 1478) :: (.str (f "k") 1481) :: (.str (f "l") 1484) :: (.str (f "m") 1487) :: (.str (f "n") 1490) :: (.str (f "o") 1493) :: (.str (f "p") 1496) :: (.str (f "q") 1499) :: (.str (f "r") 1502) :: (.str (f "s") 1505) :: (.str (f "t") 1508) :: (.str (f "u") 1511) :: (.str (f "v") 1514) :: (.str (f "w") 1517) :: (.str (f "x") 1520) :: (.str (f "y") 1523) :: (.str (f "z") 1526) :: (.str (f "=7B") 885) :: (.str (f "=7C") 889) :: (.str (f "=7D") 893) :: (.str (f "=7E") 897) :: (.str (f "=7F") 901) :: (.str (f "=80") 905) :: (.str (f "=81") 909) :: (.str (f "=82") 913) :: (.str (f "=83") 917) :: (.str (f "=84") 921) :: (.str (f "=85") 925) :: (.str (f "=86") 929) :: (.str (f "=87") 933) :: (.str (f "=88") 937) :: (.str (f "=89") 941) :: (.str (f "=8A") 945) :: (.str (f "=8B") 949) :: (.str (f "=8C") 953) :: (.str (f "=8D") 957) :: (.str (f "=8E") 961) :: (.str (f "=8F") 965) :: (.str (f "=90") 969) :: (.str (f "=91") 973) :: (.str (f "=92") 977) :: (.str (f "=93") 981) :: (.str (f "=94") 985) :: (.str (f "=95") 989) :: (.str (f "=96") 993) :: (.str (f "=97") 997) :: (.str (f "=98") 1001) :: (.str (f "=99") 1005) :: (.str (f "=9A") 1009) :: (.str (f "=9B") 1013) :: (.str (f "=9C") 1017) :: (.str (f "=9D") 1021) :: (.str (f "=9E") 1025) :: (.str (f "=9F") 1029) :: (.str (f "=A0") 1033) :: (.str (f "=A1") 1037) :: (.str (f "=A2") 1041) :: (.str (f "=A3") 1045) :: (.str (f "=A4") 1049) :: (.str (f "=A5") 1053) :: (.str (f "=A6") 1057) :: (.str (f "=A7") 1061) :: (.str (f "=A8") 1065) :: (.str (f "=A9") 1069) :: (.str (f "=AA") 1073) :: (.str (f "=AB") 1077) :: (.str (f "=AC") 1081) :: (.str (f "=AD") 1085) :: (.str (f "=AE") 1089) :: (.str (f "=AF") 1093) :: (.str (f "=B0") 1097) :: (.str (f "=B1") 1101) :: (.str (f "=B2") 1105) :: (.str (f "=B3") 1109) :: (.str (f "=B4") 1113) :: (.str (f "=B5") 1117) :: (.str (f "=B6") 1121) :: (.str (f "=B7") 1125) :: (.str (f "=B8") 1129) :: (.str (f "=B9") 1133) :: (.str (f "=BA") 1137) :: (.str (f "=BB") 1141) :: (.str (f "=BC") 1145) :: (.str (f "=BD") 1149) :: (.str (f "=BE") 1153) :: (.str (f "=BF") 1157) :: (.str (f "=C0") 1161) :: (.str (f "=C1") 1165) :: (.str (f "=C2") 1169) :: (.str (f "=C3") 1173) :: (.str (f "=C4") 1177) :: (.str (f "=C5") 1181) :: (.str (f "=C6") 1185) :: (.str (f "=C7") 1189) :: (.str (f "=C8") 1193) :: (.str (f "=C9") 1197) :: (.str (f "=CA") 1201) :: (.str (f "=CB") 1205) :: (.str (f "=CC") 1209) :: (.str (f "=CD") 1213) :: (.str (f "=CE") 1217) :: (.str (f "=CF") 1221) :: (.str (f "=D0") 1225) :: (.str (f "=D1") 1229) :: (.str (f "=D2") 1233) :: (.str (f "=D3") 1237) :: (.str (f "=D4") 1241) :: (.str (f "=D5") 1245) :: (.str (f "=D6") 1249) :: (.str (f "=D7") 1253) :: (.str (f "=D8") 1257) :: (.str (f "=D9") 1261) :: (.str (f "=DA") 1265) :: (.str (f "=DB") 1269) :: (.str (f "=DC") 1273) :: (.str (f "=DD") 1277) :: (.str (f "=DE") 1281) :: (.str (f "=DF") 1285) :: (.str (f "=E0") 1289) :: (.str (f "=E1") 1293) :: (.str (f "=E2") 1297) :: (.str (f "=E3") 1301) :: (.str (f "=E4") 1305) :: (.str (f "=E5") 1309) :: (.str (f "=E6") 1313) :: (.str (f "=E7") 1317) :: (.str (f "=E8") 1321) :: (.str (f "=E9") 1325) :: (.str (f "=EA") 1329) :: (.str (f "=EB") 1333) :: (.str (f "=EC") 1337) :: (.str (f "=ED") 1341) :: (.str (f "=EE") 1345) :: (.str (f "=EF") 1349) :: (.str (f "=F0") 1353) :: (.str (f "=F1") 1357) :: (.str (f "=F2") 1361) :: (.str (f "=F3") 1365) :: (.str (f "=F4") 1369) :: (.str (f "=F5") 1373) :: (.str (f "=F6") 1377) :: (.str (f "=F7") 1381) :: (.str (f "=F8") 1385) :: (.str (f "=F9") 1389) :: (.str (f "=FA") 1393) :: (.str (f "=FB") 1397) :: (.str (f "=FC") 1401) :: (.str (f "=FD") 1405) :: (.str (f "=FE") 1409) :: (.str (f "=FF") 1413) :: [])) 0), #[]⟩) ::
(nat_lit 95, ⟨(.type "list"), none, (.seq (List.toArray ((.str (f "=00") 393) :: (.str (f "=01") 397) :: (.str (f "=02") 401) :: (.str (f "=03") 405) :: (.str (f "=04") 409) :: (.str (f "=05") 413) :: (.str (f "=06") 417) :: (.str (f "=07") 421) :: (.str (f "=08") 425) :: (.str (f "\t") 1923) :: (.str (f "=0A") 433) :: (.str (f "=0B") 437) :: (.str (f "=0C") 441) :: (.str (f "=0D") 445) :: (.str (f "=0E") 449) :: (.str (f "=0F") 453) :: (.str (f "=10") 457) :: (.str (f "=11") 461) :: (.str (f "=12") 465) :: (.str (f "=13") 469) :: (.str (f "=14") 473) :: (.str (f "=15") 477) :: (.str (f "=16") 481) :: (.str (f "=17") 485) :: (.str (f "=18") 489) :: (.str (f "=19") 493) :: (.str (f "=1A") 497) :: (.str (f "=1B") 501) :: (.str (f "=1C") 505) :: (.str (f "=1D") 509) :: (.str (f "=1E") 513) :: (.str (f "=1F") 517) :: (.str (f " ") 1641) :: (.str (f "!") 1644) :: (.str (f "\"") 1647) :: (.str (f "#") 1650) :: (.str (f "$") 1653) :: (.str (f "%") 1656) :: (.str (f "&") 1659) :: (.str (f "'") 1662) :: (.str (f "(") 1665) :: (.str (f ")") 1668) :: (.str (f "*") 1671) :: (.str (f "+") 1674) :: (.str (f ",") 1677) :: (.str (f "-") 1680) :: (.str (f ".") 1683) :: (.str (f "/") 1686) :: (.str (f "0") 1689) :: (.str (f "1") 1692) :: (.str (f "2") 1695) :: (.str (f "3") 1698) :: (.str (f "4") 1701) :: (.str (f "5") 1704) :: (.str (f "6") 1707) :: (.str (f "7") 1710) :: (.str (f "8") 1713) :: (.str (f "9") 1716) :: (.str (f ":") 1719) :: (.str (f ";") 1722) :: (.str (f "<") 1725) :: (.str (f "=3D") 637) :: (.str (f ">") 1728) :: (.str (f "?") 1731) :: (.str (f "@") 1734) :: (.str (f "A") 1737) :: (.str (f "B") 1740) :: (.str (f "C") 1743) :: (.str (f "D") 1746) :: (.str (f "E") 1749) :: (.str (f "F") 1752) :: (.str (f "G") 1755) :: (.str (f "H") 1758) :: (.str (f "I") 1761) :: (.str (f "J") 1764) :: (.str (f "K") 1767) :: (.str (f "L") 1770) :: (.str (f "M") 1773) :: (.str (f "N") 1776) :: (.str (f "O") 1779) :: (.str (f "P") 1782) :: (.str (f "Q") 1785) :: (.str (f "R") 1788) :: (.str (f "S") 1791) :: (.str (f "T") 1794) :: (.str (f "U") 1797) :: (.str (f "V") 1800) :: (.str (f "W") 1803) :: (.str (f "X") 1806) :: (.str (f "Y") 1809) :: (.str (f "Z") 1812) :: (.str (f "[") 1815) :: (.str (f "\\") 1818) :: (.str (f "]") 1821) :: (.str (f "^") 1824) :: (.str (f "_") 1827) :: (.str (f "`") 1830) :: (.str (f "a") 1833) :: (.str (f "b") 1836) :: (.str (f "c") 1839) :: (.str (f "d") 1842) :: (.str (f "e") 1845) :: (.str (f "f") 1848) :: (.str (f "g") 1851) :: (.str (f "h") 1854) :: (.str (f "i") 1857) :: (.str (f "j") 1860) :: (.str (f "k") 1863) :: (.str (f "l") 1866) :: (.str (f "m") 1869) :: (.str (f "n") 1872) :: (.str (f "o") 1875) :: (.str (f "p") 1878) :: (.str (f "q") 1881) :: (.str (f "r") 1884) :: (.str (f "s") 1887) :: (.str (f "t") 1890) :: (.str (f "u") 1893) :: (.str (f "v") 1896) :: (.str (f "w") 1899) :: (.str (f "x") 1902) :: (.str (f "y") 1905) :: (.str (f "z") 1908) :: (.str (f "{") 1911) :: (.str (f "|") 1914) :: (.str (f "}") 1917) :: (.str (f "~") 1920) :: (.str (f "=7F") 901) :: (.str (f "=80") 905) :: (.str (f "=81") 909) :: (.str (f "=82") 913) :: (.str (f "=83") 917) :: (.str (f "=84") 921) :: (.str (f "=85") 925) :: (.str (f "=86") 929) :: (.str (f "=87") 933) :: (.str (f "=88") 937) :: (.str (f "=89") 941) :: (.str (f "=8A") 945) :: (.str (f "=8B") 949) :: (.str (f "=8C") 953) :: (.str (f "=8D") 957) :: (.str (f "=8E") 961) :: (.str (f "=8F") 965) :: (.str (f "=90") 969) :: (.str (f "=91") 973) :: (.str (f "=92") 977) :: (.str (f "=93") 981) :: (.str (f "=94") 985) :: (.str (f "=95") 989) :: (.str (f "=96") 993) :: (.str (f "=97") 997) :: (.str (f "=98") 1001) :: (.str (f "=99") 1005) :: (.str (f "=9A") 1009) :: (.str (f "=9B") 1013) :: (.str (f "=9C") 1017) :: (.str (f "=9D") 1021) :: (.str (f "=9E") 1025) :: (.str (f "=9F") 1029) :: (.str (f "=A0") 1033) :: (.str (f "=A1") 1037) :: (.str (f "=A2") 1041) :: (.str (f "=A3") 1045) :: (.str (f "=A4") 1049) :: (.str (f "=A5") 1053) :: (.str (f "=A6") 1057) :: (.str (f "=A7") 1061) :: (.str (f "=A8") 1065) :: (.str (f "=A9") 1069) :: (.str (f "=AA") 1073) :: (.str (f "=AB") 1077) :: (.str (f "=AC") 1081) :: (.str (f "=AD") 1085) :: (.str (f "=AE") 1089) :: (.str (f "=AF") 1093) :: (.str (f "=B0") 1097) :: (.str (f "=B1") 1101) :: (.str (f "=B2") 1105) :: (.str (f "=B3") 1109) :: (.str (f "=B4") 1113) :: (.str (f "=B5") 1117) :: (.str (f "=B6") 1121) :: (.str (f "=B7") 1125) :: (.str (f "=B8") 1129) :: (.str (f "=B9") 1133) :: (.str (f "=BA") 1137) :: (.str (f "=BB") 1141) :: (.str (f "=BC") 1145) :: (.str (f "=BD") 1149) :: (.str (f "=BE") 1153) :: (.str (f "=BF") 1157) :: (.str (f "=C0") 1161) :: (.str (f "=C1") 1165) :: (.str (f "=C2") 1169) :: (.str (f "=C3") 1173) :: (.str (f "=C4") 1177) :: (.str (f "=C5") 1181) :: (.str (f "=C6") 1185) :: (.str (f "=C7") 1189) :: (.str (f "=C8") 1193) :: (.str (f "=C9") 1197) :: (.str (f "=CA") 1201) :: (.str (f "=CB") 1205) :: (.str (f "=CC") 1209) :: (.str (f "=CD") 1213) :: (.str (f "=CE") 1217) :: (.str (f "=CF") 1221) :: (.str (f "=D0") 1225) :: (.str (f "=D1") 1229) :: (.str (f "=D2") 1233) :: (.str (f "=D3") 1237) :: (.str (f "=D4") 1241) :: (.str (f "=D5") 1245) :: (.str (f "=D6") 1249) :: (.str (f "=D7") 1253) :: (.str (f "=D8") 1257) :: (.str (f "=D9") 1261) :: (.str (f "=DA") 1265) :: (.str (f "=DB") 1269) :: (.str (f "=DC") 1273) :: (.str (f "=DD") 1277) :: (.str (f "=DE") 1281) :: (.str (f "=DF") 1285) :: (.str (f "=E0") 1289) :: (.str (f "=E1") 1293) :: (.str (f "=E2") 1297) :: (.str (f "=E3") 1301) :: (.str (f "=E4") 1305) :: (.str (f "=E5") 1309) :: (.str (f "=E6") 1313) :: (.str (f "=E7") 1317) :: (.str (f "=E8") 1321) :: (.str (f "=E9") 1325) :: (.str (f "=EA") 1329) :: (.str (f "=EB") 1333) :: (.str (f "=EC") 1337) :: (.str (f "=ED") 1341) :: (.str (f "=EE") 1345) :: (.str (f "=EF") 1349) :: (.str (f "=F0") 1353) :: (.str (f "=F1") 1357) :: (.str (f "=F2") 1361) :: (.str (f "=F3") 1365) :: (.str (f "=F4") 1369) :: (.str (f "=F5") 1373) :: (.str (f "=F6") 1377) :: (.str (f "=F7") 1381) :: (.str (f "=F8") 1385) :: (.str (f "=F9") 1389) :: (.str (f "=FA") 1393) :: (.str (f "=FB") 1397) :: (.str (f "=FC") 1401) :: (.str (f "=FD") 1405) :: (.str (f "=FE") 1409) :: (.str (f "=FF") 1413) :: [])) 0), #[]⟩) ::
(nat_lit 102, ⟨(.type "tuple"), none, (.seq #[] 0), #[]⟩) ::
(nat_lit 104, ⟨(.type "tuple"), none, (.seq #[(.str (f "s") 1927)] 0), #[]⟩) ::
(nat_lit 105, ⟨(.type "tuple"), none, (.seq #[] 0), #[]⟩) ::
(nat_lit 107, ⟨(.type "code"), none, (.fields #[(.str (f "unquote") 1924), (.str (f "unquote") 1925), (.str (f "/claim/cut.py") 1926), (.int 67 0), (.int 1 0), (.int 0 0), (.int 0 0), (.int 3 0), (.ref 102), (.bool true), (.int 276 0), (.ref 103), .none, (.ref 104), (.ref 105), (.ref 106), (.int 1928 0), (.int 67 0), (.str (f "/claim/cut.py") 1929)]), #[]⟩) ::
(nat_lit 108, ⟨(.type "function"), none, (.func ⟨(f "unquote"), (f "unquote"), (fA (pqs p 20)), .stmts (fB (pqs p 20)), (fC (pqs p 20)), 3, [], .none, .none, .none, (.str (f "cpy313.email.quoprimime") 1425), none, (.ref 107), .none, 0⟩), #[]⟩) ::
(nat_lit 109, ⟨(.type "tuple"), none, (.seq #[(.str (f "iso-8859-1") 1931)] 0), #[]⟩) ::
(nat_lit 110, ⟨(.type "tuple"), none, (.seq #[] 0), #[]⟩) ::
(nat_lit 112, ⟨(.type "tuple"), none, (.seq #[(.str (f "header_bytes") 1935), (.str (f "charset") 1936), (.str (f "encoded") 1937)] 0), #[]⟩) ::
(nat_lit 113, ⟨(.type "tuple"), none, (.seq #[] 0), #[]⟩) ::
(nat_lit 115, ⟨(.type "code"), none, (.fields #[(.str (f "header_encode") 1932), (.str (f "header_encode") 1933), (.str (f "/claim/cut.py") 1934), (.int 69 0), (.int 2 0), (.int 0 0), (.int 0 0), (.int 3 0), (.ref 110), (.bool true), (.int 276 0), (.ref 111), .none, (.ref 112), (.ref 113), (.ref 114), (.int 1938 0), (.int 69 0), (.str (f "/claim/cut.py") 1939)]), #[]⟩) ::
(nat_lit 116, ⟨(.type "function"), none, (.func ⟨(f "header_encode"), (f "header_encode"), (fA (pqs p 21)), .stmts (fB (pqs p 21)), (fC (pqs p 21)), 3, [], (.ref 109), .none, .none, (.str (f "cpy313.email.quoprimime") 1425), none, (.ref 115), .none, 0⟩), #[]⟩) ::
(nat_lit 118, ⟨(.type "list"), none, (.seq (List.toArray ((.str (f "=00") 393) :: (.str (f "=01") 397) :: (.str (f "=02") 401) :: (.str (f "=03") 405) :: (.str (f "=04") 409) :: (.str (f "=05") 413) :: (.str (f "=06") 417) :: (.str (f "=07") 421) :: (.str (f "=08") 425) :: (.str (f "\t") 1923) :: (.str (f "\n") 1948) :: (.str (f "=0B") 437) :: (.str (f "=0C") 441) :: (.str (f "\x0d") 1945) :: (.str (f "=0E") 449) :: (.str (f "=0F") 453) :: (.str (f "=10") 457) :: (.str (f "=11") 461) :: (.str (f "=12") 465) :: (.str (f "=13") 469) :: (.str (f "=14") 473) :: (.str (f "=15") 477) :: (.str (f "=16") 481) :: (.str (f "=17") 485) :: (.str (f "=18") 489) :: (.str (f "=19") 493) :: (.str (f "=1A") 497) :: (.str (f "=1B") 501) :: (.str (f "=1C") 505) :: (.str (f "=1D") 509) :: (.str (f "=1E") 513) :: (.str (f "=1F") 517) :: (.str (f " ") 1641) :: (.str (f "!") 1644) :: (.str (f "\"") 1647) :: (.str (f "#") 1650) :: (.str (f "$") 1653) :: (.str (f "%") 1656) :: (.str (f "&") 1659) :: (.str (f "'") 1662) :: (.str (f "(") 1665) :: (.str (f ")") 1668) :: (.str (f "*") 1671) :: (.str (f "+") 1674) :: (.str (f ",") 1677) :: (.str (f "-") 1680) :: (.str (f ".") 1683) :: (.str (f "/") 1686) :: (.str (f "0") 1689) :: (.str (f "1") 1692) :: (.str (f "2") 1695) :: (.str (f "3") 1698) :: (.str (f "4") 1701) :: (.str (f "5") 1704) :: (.str (f "6") 1707) :: (.str (f "7") 1710) :: (.str (f "8") 1713) :: (.str (f "9") 1716) :: (.str (f ":") 1719) :: (.str (f ";") 1722) :: (.str (f "<") 1725) :: (.str (f "=3D") 637) :: (.str (f ">") 1728) :: (.str (f "?") 1731) :: (.str (f "@") 1734) :: (.str (f "A") 1737) :: (.str (f "B") 1740) :: (.str (f "C") 1743) :: (.str (f "D") 1746) :: (.str (f "E") 1749) :: (.str (f "F") 1752) :: (.str (f "G") 1755) :: (.str (f "H") 1758) :: (.str (f "I") 1761) :: (.str (f "J") 1764) :: (.str (f "K") 1767) :: (.str (f "L") 1770) :: (.str (f "M") 1773) :: (.str (f "N") 1776) :: (.str (f "O") 1779) :: (.str (f "P") 1782) :: (.str (f "Q") 1785) :: (.str (f "R") 1788) :: (.str (f "S") 1791) :: (.str (f "T") 1794) :: (.str (f "U") 1797) :: (.str (f "V") 1800) :: (.str (f "W") 1803) :: (.str (f "X") 1806) :: (.str (f "Y") 1809) :: (.str (f "Z") 1812) :: (.str (f "[") 1815) :: (.str (f "\\") 1818) :: (.str (f "]") 1821) :: (.str (f "^") 1824) :: (.str (f "_") 1827) :: (.str (f "`") 1830) :: (.str (f "a") 1833) :: (.str (f "b") 1836) :: (.str (f "c") 1839) :: (.str (f "d") 1842) :: (.str (f "e") 1845) :: (.str (f "f") 1848) :: (.str (f "g") 1851) :: (.str (f "h") 1854) :: (.str (f "i") 1857) :: (.str (f "j") 1860) :: (.str (f "k") 1863) :: (.str (f "l") 1866) :: (.str (f "m") 1869) :: (.str (f "n") 1872) :: (.str (f "o") 1875) :: (.str (f "p") 1878) :: (.str (f "q") 1881) :: (.str (f "r") 1884) :: (.str (f "s") 1887) :: (.str (f "t") 1890) :: (.str (f "u") 1893) :: (.str (f "v") 1896) :: (.str (f "w") 1899) :: (.str (f "x") 1902) :: (.str (f "y") 1905) :: (.str (f "z") 1908) :: (.str (f "{") 1911) :: (.str (f "|") 1914) :: (.str (f "}") 1917) :: (.str (f "~") 1920) :: (.str (f "=7F") 901) :: (.str (f "=80") 905) :: (.str (f "=81") 909) :: (.str (f "=82") 913) :: (.str (f "=83") 917) :: (.str (f "=84") 921) :: (.str (f "=85") 925) :: (.str (f "=86") 929) :: (.str (f "=87") 933) :: (.str (f "=88") 937) :: (.str (f "=89") 941) :: (.str (f "=8A") 945) :: (.str (f "=8B") 949) :: (.str (f "=8C") 953) :: (.str (f "=8D") 957) :: (.str (f "=8E") 961) :: (.str (f "=8F") 965) :: (.str (f "=90") 969) :: (.str (f "=91") 973) :: (.str (f "=92") 977) :: (.str (f "=93") 981) :: (.str (f "=94") 985) :: (.str (f "=95") 989) :: (.str (f "=96") 993) :: (.str (f "=97") 997) :: (.str (f "=98") 1001) :: (.str (f "=99") 1005) :: (.str (f "=9A") 1009) :: (.str (f "=9B") 1013) :: (.str (f "=9C") 1017) :: (.str (f "=9D") 1021) :: (.str (f "=9E") 1025) :: (.str (f "=9F") 1029) :: (.str (f "=A0") 1033) :: (.str (f "=A1") 1037) :: (.str (f "=A2") 1041) :: (.str (f "=A3") 1045) :: (.str (f "=A4") 1049) :: (.str (f "=A5") 1053) :: (.str (f "=A6") 1057) :: (.str (f "=A7") 1061) :: (.str (f "=A8") 1065) :: (.str (f "=A9") 1069) :: (.str (f "=AA") 1073) :: (.str (f "=AB") 1077) :: (.str (f "=AC") 1081) :: (.str (f "=AD") 1085) :: (.str (f "=AE") 1089) :: (.str (f "=AF") 1093) :: (.str (f "=B0") 1097) :: (.str (f "=B1") 1101) :: (.str (f "=B2") 1105) :: (.str (f "=B3") 1109) :: (.str (f "=B4") 1113) :: (.str (f "=B5") 1117) :: (.str (f "=B6") 1121) :: (.str (f "=B7") 1125) :: (.str (f "=B8") 1129) :: (.str (f "=B9") 1133) :: (.str (f "=BA") 1137) :: (.str (f "=BB") 1141) :: (.str (f "=BC") 1145) :: (.str (f "=BD") 1149) :: (.str (f "=BE") 1153) :: (.str (f "=BF") 1157) :: (.str (f "=C0") 1161) :: (.str (f "=C1") 1165) :: (.str (f "=C2") 1169) :: (.str (f "=C3") 1173) :: (.str (f "=C4") 1177) :: (.str (f "=C5") 1181) :: (.str (f "=C6") 1185) :: (.str (f "=C7") 1189) :: (.str (f "=C8") 1193) :: (.str (f "=C9") 1197) :: (.str (f "=CA") 1201) :: (.str (f "=CB") 1205) :: (.str (f "=CC") 1209) :: (.str (f "=CD") 1213) :: (.str (f "=CE") 1217) :: (.str (f "=CF") 1221) :: (.str (f "=D0") 1225) :: (.str (f "=D1") 1229) :: (.str (f "=D2") 1233) :: (.str (f "=D3") 1237) :: (.str (f "=D4") 1241) :: (.str (f "=D5") 1245) :: (.str (f "=D6") 1249) :: (.str (f "=D7") 1253) :: (.str (f "=D8") 1257) :: (.str (f "=D9") 1261) :: (.str (f "=DA") 1265) :: (.str (f "=DB") 1269) :: (.str (f "=DC") 1273) :: (.str (f "=DD") 1277) :: (.str (f "=DE") 1281) :: (.str (f "=DF") 1285) :: (.str (f "=E0") 1289) :: (.str (f "=E1") 1293) :: (.str (f "=E2") 1297) :: (.str (f "=E3") 1301) :: (.str (f "=E4") 1305) :: (.str (f "=E5") 1309) :: (.str (f "=E6") 1313) :: (.str (f "=E7") 1317) :: (.str (f "=E8") 1321) :: (.str (f "=E9") 1325) :: (.str (f "=EA") 1329) :: (.str (f "=EB") 1333) :: (.str (f "=EC") 1337) :: (.str (f "=ED") 1341) :: (.str (f "=EE") 1345) :: (.str (f "=EF") 1349) :: (.str (f "=F0") 1353) :: (.str (f "=F1") 1357) :: (.str (f "=F2") 1361) :: (.str (f "=F3") 1365) :: (.str (f "=F4") 1369) :: (.str (f "=F5") 1373) :: (.str (f "=F6") 1377) :: (.str (f "=F7") 1381) :: (.str (f "=F8") 1385) :: (.str (f "=F9") 1389) :: (.str (f "=FA") 1393) :: (.str (f "=FB") 1397) :: (.str (f "=FC") 1401) :: (.str (f "=FD") 1405) :: (.str (f "=FE") 1409) :: (.str (f "=FF") 1413) :: [])) 0), #[]⟩) ::
(nat_lit 122, ⟨(.type "tuple"), none, (.seq #[] 0), #[]⟩) ::
(nat_lit 124, ⟨(.type "tuple"), none, (.seq #[(.str (f "match") 1952), (.str (f "s") 1953)] 0), #[]⟩) ::
(nat_lit 125, ⟨(.type "tuple"), none, (.seq #[] 0), #[]⟩) ::
(nat_lit 127, ⟨(.type "code"), none, (.fields #[(.str (f "_unquote_match") 1949), (.str (f "_unquote_match") 1950), (.str (f "/claim/cut.py") 1951), (.int 78 0), (.int 1 0), (.int 0 0), (.int 0 0), (.int 3 0), (.ref 122), (.bool true), (.int 276 0), (.ref 123), .none, (.ref 124), (.ref 125), (.ref 126), (.int 1954 0), (.int 78 0), (.str (f "/claim/cut.py") 1955)]), #[]⟩) ::
(nat_lit 128, ⟨(.type "function"), none, (.func ⟨(f "_unquote_match"), (f "_unquote_match"), (fA (pqs p 25)), .stmts (fB (pqs p 25)), (fC (pqs p 25)), 3, [], .none, .none, .none, (.str (f "cpy313.email.quoprimime") 1425), none, (.ref 127), .none, 0⟩), #[]⟩) ::
(nat_lit 129, ⟨(.type "tuple"), none, (.seq #[] 0), #[]⟩) ::
(nat_lit 131, ⟨(.type "tuple"), none, (.seq #[(.str (f "s") 1960)] 0), #[]⟩) ::
(nat_lit 132, ⟨(.type "tuple"), none, (.seq #[] 0), #[]⟩) ::
(nat_lit 134, ⟨(.type "code"), none, (.fields #[(.str (f "header_decode") 1957), (.str (f "header_decode") 1958), (.str (f "/claim/cut.py") 1959), (.int 81 0), (.int 1 0), (.int 0 0), (.int 0 0), (.int 3 0), (.ref 129), (.bool true), (.int 276 0), (.ref 130), .none, (.ref 131), (.ref 132), (.ref 133), (.int 1961 0), (.int 81 0), (.str (f "/claim/cut.py") 1962)]), #[]⟩) ::
(nat_lit 135, ⟨(.type "function"), none, (.func ⟨(f "header_decode"), (f "header_decode"), (fA (pqs p 26)), .stmts (fB (pqs p 26)), (fC (pqs p 26)), 3, [], .none, .none, .none, (.str (f "cpy313.email.quoprimime") 1425), none, (.ref 134), .none, 0⟩), #[]⟩) ::
(nat_lit 136, ⟨(.type "tuple"), none, (.seq #[] 0), #[]⟩) ::
(nat_lit 138, ⟨(.type "tuple"), none, (.seq #[(.str (f "number") 1969), (.str (f "borders") 1970), (.str (f "octets") 1971), (.str (f "figure") 1972)] 0), #[]⟩) ::
(nat_lit 139, ⟨(.type "tuple"), none, (.seq #[] 0), #[]⟩) ::
(nat_lit 141, ⟨(.type "code"), none, (.fields #[(.str (f "_law_octets") 1966), (.str (f "_law_octets") 1967), (.str (f "/claim/cut.py") 1968), (.int 85 0), (.int 1 0), (.int 0 0), (.int 0 0), (.int 3 0), (.ref 136), (.bool true), (.int 276 0), (.ref 137), .none, (.ref 138), (.ref 139), (.ref 140), (.int 1973 0), (.int 85 0), (.str (f "/claim/cut.py") 1974)]), #[]⟩) ::
(nat_lit 142, ⟨(.type "function"), none, (.func ⟨(f "_law_octets"), (f "_law_octets"), (fA (pqs p 28)), .stmts (fB (pqs p 28)), (fC (pqs p 28)), 3, [], .none, .none, .none, (.str (f "law_ny0134_01") 1964), none, (.ref 141), .none, 0⟩), #[]⟩) ::
(nat_lit 143, ⟨(.type "tuple"), none, (.seq #[] 0), #[]⟩) ::
(nat_lit 145, ⟨(.type "tuple"), none, (.seq #[(.str (f "octet") 1979)] 0), #[]⟩) ::
(nat_lit 146, ⟨(.type "tuple"), none, (.seq #[] 0), #[]⟩) ::
(nat_lit 148, ⟨(.type "code"), none, (.fields #[(.str (f "_law_as_it_is") 1976), (.str (f "_law_as_it_is") 1977), (.str (f "/claim/cut.py") 1978), (.int 93 0), (.int 1 0), (.int 0 0), (.int 0 0), (.int 3 0), (.ref 143), (.bool true), (.int 276 0), (.ref 144), .none, (.ref 145), (.ref 146), (.ref 147), (.int 1980 0), (.int 93 0), (.str (f "/claim/cut.py") 1981)]), #[]⟩) ::
(nat_lit 149, ⟨(.type "function"), none, (.func ⟨(f "_law_as_it_is"), (f "_law_as_it_is"), (fA (pqs p 29)), .stmts (fB (pqs p 29)), (fC (pqs p 29)), 3, [], .none, .none, .none, (.str (f "law_ny0134_01") 1964), none, (.ref 148), .none, 0⟩), #[]⟩) ::
(nat_lit 150, ⟨(.type "tuple"), none, (.seq #[] 0), #[]⟩) ::
(nat_lit 152, ⟨(.type "tuple"), none, (.seq #[(.str (f "octets") 1986), (.str (f "charset") 1987), (.str (f "figures") 1988), (.str (f "word") 1989), (.str (f "octet") 1990)] 0), #[]⟩) ::
(nat_lit 153, ⟨(.type "tuple"), none, (.seq #[] 0), #[]⟩) ::
(nat_lit 155, ⟨(.type "code"), none, (.fields #[(.str (f "_law_word") 1983), (.str (f "_law_word") 1984), (.str (f "/claim/cut.py") 1985), (.int 95 0), (.int 2 0), (.int 0 0), (.int 0 0), (.int 3 0), (.ref 150), (.bool true), (.int 276 0), (.ref 151), .none, (.ref 152), (.ref 153), (.ref 154), (.int 1991 0), (.int 95 0), (.str (f "/claim/cut.py") 1992)]), #[]⟩) ::
(nat_lit 156, ⟨(.type "function"), none, (.func ⟨(f "_law_word"), (f "_law_word"), (fA (pqs p 30)), .stmts (fB (pqs p 30)), (fC (pqs p 30)), 3, [], .none, .none, .none, (.str (f "law_ny0134_01") 1964), none, (.ref 155), .none, 0⟩), #[]⟩) ::
(nat_lit 157, ⟨(.type "tuple"), none, (.seq #[] 0), #[]⟩) ::
(nat_lit 160, ⟨(.type "code"), none, (.fields #[(.str (f "_law_ranks") 1994), (.str (f "_law_ranks") 1995), (.str (f "/claim/cut.py") 1996), (.int 108 0), (.int 2 0), (.int 0 0), (.int 0 0), (.int 3 0), (.ref 157), (.bool true), (.int 276 0), (.ref 158), .none, .none, .none, (.ref 159), (.int 1997 0), (.int 108 0), (.str (f "/claim/cut.py") 1998)]), #[]⟩) ::
(nat_lit 161, ⟨(.type "function"), none, (.func ⟨(f "_law_ranks"), (f "_law_ranks"), (fA (pqs p 31)), .stmts (fB (pqs p 31)), (fC (pqs p 31)), 3, [], .none, .none, .none, (.str (f "law_ny0134_01") 1964), none, (.ref 160), .none, 0⟩), #[]⟩) ::
(nat_lit 162, ⟨(.type "tuple"), none, (.seq #[] 0), #[]⟩) ::
(nat_lit 165, ⟨(.type "code"), none, (.fields #[(.str (f "law") 2000), (.str (f "law") 2001), (.str (f "/claim/cut.py") 2002), (.int 120 0), (.int 1 0), (.int 0 0), (.int 0 0), (.int 3 0), (.ref 162), (.bool true), (.int 276 0), (.ref 163), .none, .none, .none, (.ref 164), (.int 2003 0), (.int 120 0), (.str (f "/claim/cut.py") 2004)]), #[]⟩) ::
(nat_lit 166, ⟨(.type "function"), none, (.func ⟨(f "law"), (f "law"), (fA (pqs p 32)), .stmts (fB (pqs p 32)), (fC (pqs p 32)), 3, [], .none, .none, .none, (.str (f "law_ny0134_01") 1964), none, (.ref 165), .none, 0⟩), #[]⟩) :: []
end H
open H in
noncomputable def hd.heap_39 : Params → Frag := by
  refine (?g : ∀ (n1 : Str) (a1 : Arguments) (b1 : List Stmt) (d1 : List PySem.Expr) (r1 : Option PySem.Expr) (t1 : List TypeParam) (c1 : Scope) (u1 : Option Scope) (v1 : Str) (p1 : Pos) (_ : Stmt.FunctionDef n1 a1 b1 d1 r1 t1 c1 u1 v1 p1 = pqs PySem.Challenge.pw_ny0134_01 1) (n2 : Str) (a2 : Arguments) (b2 : List Stmt) (d2 : List PySem.Expr) (r2 : Option PySem.Expr) (t2 : List TypeParam) (c2 : Scope) (u2 : Option Scope) (v2 : Str) (p2 : Pos) (_ : Stmt.FunctionDef n2 a2 b2 d2 r2 t2 c2 u2 v2 p2 = pqs PySem.Challenge.pw_ny0134_01 2) (n3 : Str) (a3 : Arguments) (b3 : List Stmt) (d3 : List PySem.Expr) (r3 : Option PySem.Expr) (t3 : List TypeParam) (c3 : Scope) (u3 : Option Scope) (v3 : Str) (p3 : Pos) (_ : Stmt.FunctionDef n3 a3 b3 d3 r3 t3 c3 u3 v3 p3 = pqs PySem.Challenge.pw_ny0134_01 3) (n4 : Str) (a4 : Arguments) (b4 : List Stmt) (d4 : List PySem.Expr) (r4 : Option PySem.Expr) (t4 : List TypeParam) (c4 : Scope) (u4 : Option Scope) (v4 : Str) (p4 : Pos) (_ : Stmt.FunctionDef n4 a4 b4 d4 r4 t4 c4 u4 v4 p4 = pqs PySem.Challenge.pw_ny0134_01 4) (n5 : Str) (a5 : Arguments) (b5 : List Stmt) (d5 : List PySem.Expr) (r5 : Option PySem.Expr) (t5 : List TypeParam) (c5 : Scope) (u5 : Option Scope) (v5 : Str) (p5 : Pos) (_ : Stmt.FunctionDef n5 a5 b5 d5 r5 t5 c5 u5 v5 p5 = pqs PySem.Challenge.pw_ny0134_01 5) (n6 : Str) (a6 : Arguments) (b6 : List Stmt) (d6 : List PySem.Expr) (r6 : Option PySem.Expr) (t6 : List TypeParam) (c6 : Scope) (u6 : Option Scope) (v6 : Str) (p6 : Pos) (_ : Stmt.FunctionDef n6 a6 b6 d6 r6 t6 c6 u6 v6 p6 = pqs PySem.Challenge.pw_ny0134_01 6) (n7 : Str) (a7 : Arguments) (b7 : List Stmt) (d7 : List PySem.Expr) (r7 : Option PySem.Expr) (t7 : List TypeParam) (c7 : Scope) (u7 : Option Scope) (v7 : Str) (p7 : Pos) (_ : Stmt.FunctionDef n7 a7 b7 d7 r7 t7 c7 u7 v7 p7 = pqs PySem.Challenge.pw_ny0134_01 7) (n20 : Str) (a20 : Arguments) (b20 : List Stmt) (d20 : List PySem.Expr) (r20 : Option PySem.Expr) (t20 : List TypeParam) (c20 : Scope) (u20 : Option Scope) (v20 : Str) (p20 : Pos) (_ : Stmt.FunctionDef n20 a20 b20 d20 r20 t20 c20 u20 v20 p20 = pqs PySem.Challenge.pw_ny0134_01 20) (n21 : Str) (a21 : Arguments) (b21 : List Stmt) (d21 : List PySem.Expr) (r21 : Option PySem.Expr) (t21 : List TypeParam) (c21 : Scope) (u21 : Option Scope) (v21 : Str) (p21 : Pos) (_ : Stmt.FunctionDef n21 a21 b21 d21 r21 t21 c21 u21 v21 p21 = pqs PySem.Challenge.pw_ny0134_01 21) (n25 : Str) (a25 : Arguments) (b25 : List Stmt) (d25 : List PySem.Expr) (r25 : Option PySem.Expr) (t25 : List TypeParam) (c25 : Scope) (u25 : Option Scope) (v25 : Str) (p25 : Pos) (_ : Stmt.FunctionDef n25 a25 b25 d25 r25 t25 c25 u25 v25 p25 = pqs PySem.Challenge.pw_ny0134_01 25) (n26 : Str) (a26 : Arguments) (b26 : List Stmt) (d26 : List PySem.Expr) (r26 : Option PySem.Expr) (t26 : List TypeParam) (c26 : Scope) (u26 : Option Scope) (v26 : Str) (p26 : Pos) (_ : Stmt.FunctionDef n26 a26 b26 d26 r26 t26 c26 u26 v26 p26 = pqs PySem.Challenge.pw_ny0134_01 26) (n28 : Str) (a28 : Arguments) (b28 : List Stmt) (d28 : List PySem.Expr) (r28 : Option PySem.Expr) (t28 : List TypeParam) (c28 : Scope) (u28 : Option Scope) (v28 : Str) (p28 : Pos) (_ : Stmt.FunctionDef n28 a28 b28 d28 r28 t28 c28 u28 v28 p28 = pqs PySem.Challenge.pw_ny0134_01 28) (n29 : Str) (a29 : Arguments) (b29 : List Stmt) (d29 : List PySem.Expr) (r29 : Option PySem.Expr) (t29 : List TypeParam) (c29 : Scope) (u29 : Option Scope) (v29 : Str) (p29 : Pos) (_ : Stmt.FunctionDef n29 a29 b29 d29 r29 t29 c29 u29 v29 p29 = pqs PySem.Challenge.pw_ny0134_01 29) (n30 : Str) (a30 : Arguments) (b30 : List Stmt) (d30 : List PySem.Expr) (r30 : Option PySem.Expr) (t30 : List TypeParam) (c30 : Scope) (u30 : Option Scope) (v30 : Str) (p30 : Pos) (_ : Stmt.FunctionDef n30 a30 b30 d30 r30 t30 c30 u30 v30 p30 = pqs PySem.Challenge.pw_ny0134_01 30) (n31 : Str) (a31 : Arguments) (b31 : List Stmt) (d31 : List PySem.Expr) (r31 : Option PySem.Expr) (t31 : List TypeParam) (c31 : Scope) (u31 : Option Scope) (v31 : Str) (p31 : Pos) (_ : Stmt.FunctionDef n31 a31 b31 d31 r31 t31 c31 u31 v31 p31 = pqs PySem.Challenge.pw_ny0134_01 31) (n32 : Str) (a32 : Arguments) (b32 : List Stmt) (d32 : List PySem.Expr) (r32 : Option PySem.Expr) (t32 : List TypeParam) (c32 : Scope) (u32 : Option Scope) (v32 : Str) (p32 : Pos) (_ : Stmt.FunctionDef n32 a32 b32 d32 r32 t32 c32 u32 v32 p32 = pqs PySem.Challenge.pw_ny0134_01 32), Params → Frag) _ _ _ _ _ _ _ _ _ _ rfl _ _ _ _ _ _ _ _ _ _ rfl _ _ _ _ _ _ _ _ _ _ rfl _ _ _ _ _ _ _ _ _ _ rfl _ _ _ _ _ _ _ _ _ _ rfl _ _ _ _ _ _ _ _ _ _ rfl _ _ _ _ _ _ _ _ _ _ rfl _ _ _ _ _ _ _ _ _ _ rfl _ _ _ _ _ _ _ _ _ _ rfl _ _ _ _ _ _ _ _ _ _ rfl _ _ _ _ _ _ _ _ _ _ rfl _ _ _ _ _ _ _ _ _ _ rfl _ _ _ _ _ _ _ _ _ _ rfl _ _ _ _ _ _ _ _ _ _ rfl _ _ _ _ _ _ _ _ _ _ rfl _ _ _ _ _ _ _ _ _ _ rfl
  exact fun n1 a1 b1 d1 r1 t1 c1 u1 v1 p1 _ n2 a2 b2 d2 r2 t2 c2 u2 v2 p2 _ n3 a3 b3 d3 r3 t3 c3 u3 v3 p3 _ n4 a4 b4 d4 r4 t4 c4 u4 v4 p4 _ n5 a5 b5 d5 r5 t5 c5 u5 v5 p5 _ n6 a6 b6 d6 r6 t6 c6 u6 v6 p6 _ n7 a7 b7 d7 r7 t7 c7 u7 v7 p7 _ n20 a20 b20 d20 r20 t20 c20 u20 v20 p20 _ n21 a21 b21 d21 r21 t21 c21 u21 v21 p21 _ n25 a25 b25 d25 r25 t25 c25 u25 v25 p25 _ n26 a26 b26 d26 r26 t26 c26 u26 v26 p26 _ n28 a28 b28 d28 r28 t28 c28 u28 v28 p28 _ n29 a29 b29 d29 r29 t29 c29 u29 v29 p29 _ n30 a30 b30 d30 r30 t30 c30 u30 v30 p30 _ n31 a31 b31 d31 r31 t31 c31 u31 v31 p31 _ n32 a32 b32 d32 r32 t32 c32 u32 v32 p32 _ P => (nat_lit 2, ⟨.none, none, (.dict #[⟨(PyData.keyHash P ("\x69mport.loaded._sre")), (.str ("\x69mport.loaded._sre") 183), (.bool true)⟩, ⟨(PyData.keyHash P ("class._frozen_importlib.BuiltinImporter")), (.str ("class._frozen_importlib.BuiltinImporter") 185), (.ref 14)⟩, ⟨(PyData.keyHash P ("watched.\x69mport")), (.str ("watched.\x69mport") 206), (.ref 18)⟩, ⟨(PyData.keyHash P ("class._frozen_importlib.ModuleSpec")), (.str ("class._frozen_importlib.ModuleSpec") 216), (.ref 22)⟩, ⟨(PyData.keyHash P ("sys.modules.booked-epoch")), (.str ("sys.modules.booked-epoch") 245), (.int 3 0)⟩, ⟨(PyData.keyHash P ("\x69mport.later-laid._sre")), (.str ("\x69mport.later-laid._sre") 270), (.bool true)⟩, ⟨(PyData.keyHash P ("watched.library")), (.str ("watched.library") 272), (.ref 27)⟩, ⟨(PyData.keyHash P ("watched.library-objects")), (.str ("watched.library-objects") 0), (.str ("\x0c") 0)⟩, ⟨(PyData.keyHash P ("watched.library-deep._sre")), (.str ("watched.library-deep._sre") 273), (.str ("\x04\x00\x00\x0b\x04\x00\x00\x0b\x04\x00\x00\x03\x04\x00\x00\x0b\x08\x04dict\x02") 0)⟩] 9), #[]⟩) ::
(nat_lit 3, ⟨(.type "dict"), none, (.dict #[⟨(PyData.keyHash P ("__name__")), (.str ("__name__") 165), (.str ("law_ny0134_01") 1964)⟩, ⟨(PyData.keyHash P ("__doc__")), (.str ("__doc__") 166), .none⟩, ⟨(PyData.keyHash P ("__package__")), (.str ("__package__") 167), .none⟩, ⟨(PyData.keyHash P ("__loader__")), (.str ("__loader__") 168), (.builtin "__main__.__loader__#opaque")⟩, ⟨(PyData.keyHash P ("__spec__")), (.str ("__spec__") 169), .none⟩, ⟨(PyData.keyHash P ("__annotations__")), (.str ("__annotations__") 170), (.ref 6)⟩, ⟨(PyData.keyHash P ("__builtins__")), (.str ("__builtins__") 171), (.ref 4)⟩, ⟨(PyData.keyHash P ("__file__")), (.str ("__file__") 173), (.str ("/claim/cut.py") 172)⟩, ⟨(PyData.keyHash P ("__cached__")), (.str ("__cached__") 174), .none⟩, ⟨(PyData.keyHash P ("_sre")), (.str ("_sre") 275), (.ref 12)⟩, ⟨(PyData.keyHash P ("heappush")), (.str ("heappush") 291), (.ref 38)⟩, ⟨(PyData.keyHash P ("heappop")), (.str ("heappop") 300), (.ref 45)⟩, ⟨(PyData.keyHash P ("heapreplace")), (.str ("heapreplace") 309), (.ref 52)⟩, ⟨(PyData.keyHash P ("heappushpop")), (.str ("heappushpop") 317), (.ref 59)⟩, ⟨(PyData.keyHash P ("heapify")), (.str ("heapify") 326), (.ref 66)⟩, ⟨(PyData.keyHash P ("_siftdown")), (.str ("_siftdown") 338), (.ref 73)⟩, ⟨(PyData.keyHash P ("_siftup")), (.str ("_siftup") 351), (.ref 80)⟩, ⟨(PyData.keyHash P ("_twin_re_1")), (.str ("_twin_re_1") 386), (.ref 85)⟩, ⟨(PyData.keyHash P ("_QUOPRI_MAP")), (.str ("_QUOPRI_MAP") 1414), (.ref 88)⟩, ⟨(PyData.keyHash P ("_QUOPRI_HEADER_MAP")), (.str ("_QUOPRI_HEADER_MAP") 1415), (.ref 93)⟩, ⟨(PyData.keyHash P ("_QUOPRI_BODY_MAP")), (.str ("_QUOPRI_BODY_MAP") 1416), (.ref 95)⟩, ⟨(PyData.keyHash P ("ascii_lowercase")), (.str ("ascii_lowercase") 1418), (.str ("abcdefghijklmnopqrstuvwxyz") 1417)⟩, ⟨(PyData.keyHash P ("ascii_uppercase")), (.str ("ascii_uppercase") 1420), (.str ("ABCDEFGHIJKLMNOPQRSTUVWXYZ") 1419)⟩, ⟨(PyData.keyHash P ("ascii_letters")), (.str ("ascii_letters") 1422), (.str ("abcdefghijklmnopqrstuvwxyzABCDEFGHIJKLMNOPQRSTUVWXYZ") 1421)⟩, ⟨(PyData.keyHash P ("digits")), (.str ("digits") 1424), (.str ("0123456789") 1423)⟩, ⟨(PyData.keyHash P ("unquote")), (.str ("unquote") 1930), (.ref 108)⟩, ⟨(PyData.keyHash P ("header_encode")), (.str ("header_encode") 1940), (.ref 116)⟩, ⟨(PyData.keyHash P ("_QUOPRI_BODY_ENCODE_MAP")), (.str ("_QUOPRI_BODY_ENCODE_MAP") 1941), (.ref 118)⟩, ⟨(PyData.keyHash P ("_unquote_match")), (.str ("_unquote_match") 1956), (.ref 128)⟩, ⟨(PyData.keyHash P ("header_decode")), (.str ("header_decode") 1963), (.ref 135)⟩, ⟨(PyData.keyHash P ("_law_octets")), (.str ("_law_octets") 1975), (.ref 142)⟩, ⟨(PyData.keyHash P ("_law_as_it_is")), (.str ("_law_as_it_is") 1982), (.ref 149)⟩, ⟨(PyData.keyHash P ("_law_word")), (.str ("_law_word") 1993), (.ref 156)⟩, ⟨(PyData.keyHash P ("_law_ranks")), (.str ("_law_ranks") 1999), (.ref 161)⟩, ⟨(PyData.keyHash P ("law")), (.str ("law") 2005), (.ref 166)⟩] 37), #[]⟩) ::
(nat_lit 6, ⟨(.type "dict"), none, (.dict #[] 0), #[]⟩) ::
(nat_lit 11, ⟨(.type "dict"), none, (.dict #[⟨(PyData.keyHash P ("__name__")), (.str ("__name__") 247), (.str ("_sre") 246)⟩, ⟨(PyData.keyHash P ("__doc__")), (.str ("__doc__") 248), .none⟩, ⟨(PyData.keyHash P ("__package__")), (.str ("__package__") 250), (.str ("") 249)⟩, ⟨(PyData.keyHash P ("__loader__")), (.str ("__loader__") 251), (.builtin "off-the-table:_sre.__loader__:shared#opaque")⟩, ⟨(PyData.keyHash P ("__spec__")), (.str ("__spec__") 252), (.builtin "off-the-table:_sre.__spec__:shared#opaque")⟩, ⟨(PyData.keyHash P ("compile")), (.str ("compile") 253), (.builtin "_sre.compile")⟩, ⟨(PyData.keyHash P ("template")), (.str ("template") 254), (.builtin "off-the-table:_sre.template:shared#opaque")⟩, ⟨(PyData.keyHash P ("getcodesize")), (.str ("getcodesize") 255), (.builtin "off-the-table:_sre.getcodesize:shared#opaque")⟩, ⟨(PyData.keyHash P ("ascii_iscased")), (.str ("ascii_iscased") 256), (.builtin "off-the-table:_sre.ascii_iscased:shared#opaque")⟩, ⟨(PyData.keyHash P ("unicode_iscased")), (.str ("unicode_iscased") 257), (.builtin "off-the-table:_sre.unicode_iscased:shared#opaque")⟩, ⟨(PyData.keyHash P ("ascii_tolower")), (.str ("ascii_tolower") 258), (.builtin "off-the-table:_sre.ascii_tolower:shared#opaque")⟩, ⟨(PyData.keyHash P ("unicode_tolower")), (.str ("unicode_tolower") 259), (.builtin "off-the-table:_sre.unicode_tolower:shared#opaque")⟩, ⟨(PyData.keyHash P ("MAGIC")), (.str ("MAGIC") 261), (.int 20230612 260)⟩, ⟨(PyData.keyHash P ("CODESIZE")), (.str ("CODESIZE") 263), (.int 4 262)⟩, ⟨(PyData.keyHash P ("MAXREPEAT")), (.str ("MAXREPEAT") 265), (.int 4294967295 264)⟩, ⟨(PyData.keyHash P ("MAXGROUPS")), (.str ("MAXGROUPS") 267), (.int 1073741823 266)⟩, ⟨(PyData.keyHash P ("copyright")), (.str ("copyright") 269), (.str (" SRE 2.2.2 Copyright (c) 1997-2002 by Secret Labs AB ") 268)⟩] 17), #[]⟩) ::
(nat_lit 12, ⟨(.type "module"), (some 11), .plain, #[]⟩) ::
(nat_lit 32, ⟨(.type "tuple"), none, (.seq #[] 0), #[]⟩) ::
(nat_lit 34, ⟨(.type "tuple"), none, (.seq #[(.str ("heap") 287), (.str ("item") 288)] 0), #[]⟩) ::
(nat_lit 35, ⟨(.type "tuple"), none, (.seq #[] 0), #[]⟩) ::
(nat_lit 37, ⟨(.type "code"), none, (.fields #[(.str ("heappush") 284), (.str ("heappush") 285), (.str ("/claim/cut.py") 286), (.int 3 0), (.int 2 0), (.int 0 0), (.int 0 0), (.int 3 0), (.ref 32), (.bool true), (.int 276 0), (.ref 33), .none, (.ref 34), (.ref 35), (.ref 36), (.int 289 0), (.int 3 0), (.str ("/claim/cut.py") 290)]), #[]⟩) ::
(nat_lit 38, ⟨(.type "function"), none, (.func ⟨("heappush"), ("heappush"), a1, .stmts b1, c1, 3, [], .none, .none, .none, (.str ("cpy313.heapq") 282), none, (.ref 37), .none, 0⟩), #[]⟩) ::
(nat_lit 39, ⟨(.type "tuple"), none, (.seq #[] 0), #[]⟩) ::
(nat_lit 41, ⟨(.type "tuple"), none, (.seq #[(.str ("heap") 295), (.str ("lastelt") 296), (.str ("returnitem") 297)] 0), #[]⟩) ::
(nat_lit 42, ⟨(.type "tuple"), none, (.seq #[] 0), #[]⟩) ::
(nat_lit 44, ⟨(.type "code"), none, (.fields #[(.str ("heappop") 292), (.str ("heappop") 293), (.str ("/claim/cut.py") 294), (.int 6 0), (.int 1 0), (.int 0 0), (.int 0 0), (.int 3 0), (.ref 39), (.bool true), (.int 276 0), (.ref 40), .none, (.ref 41), (.ref 42), (.ref 43), (.int 298 0), (.int 6 0), (.str ("/claim/cut.py") 299)]), #[]⟩) ::
(nat_lit 45, ⟨(.type "function"), none, (.func ⟨("heappop"), ("heappop"), a2, .stmts b2, c2, 3, [], .none, .none, .none, (.str ("cpy313.heapq") 282), none, (.ref 44), .none, 0⟩), #[]⟩) ::
(nat_lit 46, ⟨(.type "tuple"), none, (.seq #[] 0), #[]⟩) ::
(nat_lit 48, ⟨(.type "tuple"), none, (.seq #[(.str ("heap") 304), (.str ("item") 305), (.str ("returnitem") 306)] 0), #[]⟩) ::
(nat_lit 49, ⟨(.type "tuple"), none, (.seq #[] 0), #[]⟩) ::
(nat_lit 51, ⟨(.type "code"), none, (.fields #[(.str ("heapreplace") 301), (.str ("heapreplace") 302), (.str ("/claim/cut.py") 303), (.int 14 0), (.int 2 0), (.int 0 0), (.int 0 0), (.int 3 0), (.ref 46), (.bool true), (.int 276 0), (.ref 47), .none, (.ref 48), (.ref 49), (.ref 50), (.int 307 0), (.int 14 0), (.str ("/claim/cut.py") 308)]), #[]⟩) ::
(nat_lit 52, ⟨(.type "function"), none, (.func ⟨("heapreplace"), ("heapreplace"), a3, .stmts b3, c3, 3, [], .none, .none, .none, (.str ("cpy313.heapq") 282), none, (.ref 51), .none, 0⟩), #[]⟩) ::
(nat_lit 53, ⟨(.type "tuple"), none, (.seq #[] 0), #[]⟩) ::
(nat_lit 55, ⟨(.type "tuple"), none, (.seq #[(.str ("heap") 313), (.str ("item") 314)] 0), #[]⟩) ::
(nat_lit 56, ⟨(.type "tuple"), none, (.seq #[] 0), #[]⟩) ::
(nat_lit 58, ⟨(.type "code"), none, (.fields #[(.str ("heappushpop") 310), (.str ("heappushpop") 311), (.str ("/claim/cut.py") 312), (.int 19 0), (.int 2 0), (.int 0 0), (.int 0 0), (.int 3 0), (.ref 53), (.bool true), (.int 276 0), (.ref 54), .none, (.ref 55), (.ref 56), (.ref 57), (.int 315 0), (.int 19 0), (.str ("/claim/cut.py") 316)]), #[]⟩) ::
(nat_lit 59, ⟨(.type "function"), none, (.func ⟨("heappushpop"), ("heappushpop"), a4, .stmts b4, c4, 3, [], .none, .none, .none, (.str ("cpy313.heapq") 282), none, (.ref 58), .none, 0⟩), #[]⟩) ::
(nat_lit 60, ⟨(.type "tuple"), none, (.seq #[] 0), #[]⟩) ::
(nat_lit 62, ⟨(.type "tuple"), none, (.seq #[(.str ("x") 321), (.str ("n") 322), (.str ("i") 323)] 0), #[]⟩) ::
(nat_lit 63, ⟨(.type "tuple"), none, (.seq #[] 0), #[]⟩) ::
(nat_lit 65, ⟨(.type "code"), none, (.fields #[(.str ("heapify") 318), (.str ("heapify") 319), (.str ("/claim/cut.py") 320), (.int 24 0), (.int 1 0), (.int 0 0), (.int 0 0), (.int 3 0), (.ref 60), (.bool true), (.int 276 0), (.ref 61), .none, (.ref 62), (.ref 63), (.ref 64), (.int 324 0), (.int 24 0), (.str ("/claim/cut.py") 325)]), #[]⟩) ::
(nat_lit 66, ⟨(.type "function"), none, (.func ⟨("heapify"), ("heapify"), a5, .stmts b5, c5, 3, [], .none, .none, .none, (.str ("cpy313.heapq") 282), none, (.ref 65), .none, 0⟩), #[]⟩) ::
(nat_lit 67, ⟨(.type "tuple"), none, (.seq #[] 0), #[]⟩) ::
(nat_lit 69, ⟨(.type "tuple"), none, (.seq #[(.str ("heap") 330), (.str ("startpos") 331), (.str ("pos") 332), (.str ("newitem") 333), (.str ("parentpos") 334), (.str ("parent") 335)] 0), #[]⟩) ::
(nat_lit 70, ⟨(.type "tuple"), none, (.seq #[] 0), #[]⟩) ::
(nat_lit 72, ⟨(.type "code"), none, (.fields #[(.str ("_siftdown") 327), (.str ("_siftdown") 328), (.str ("/claim/cut.py") 329), (.int 28 0), (.int 3 0), (.int 0 0), (.int 0 0), (.int 3 0), (.ref 67), (.bool true), (.int 276 0), (.ref 68), .none, (.ref 69), (.ref 70), (.ref 71), (.int 336 0), (.int 28 0), (.str ("/claim/cut.py") 337)]), #[]⟩) ::
(nat_lit 73, ⟨(.type "function"), none, (.func ⟨("_siftdown"), ("_siftdown"), a6, .stmts b6, c6, 3, [], .none, .none, .none, (.str ("cpy313.heapq") 282), none, (.ref 72), .none, 0⟩), #[]⟩) ::
(nat_lit 74, ⟨(.type "tuple"), none, (.seq #[] 0), #[]⟩) ::
(nat_lit 76, ⟨(.type "tuple"), none, (.seq #[(.str ("heap") 342), (.str ("pos") 343), (.str ("endpos") 344), (.str ("startpos") 345), (.str ("newitem") 346), (.str ("childpos") 347), (.str ("rightpos") 348)] 0), #[]⟩) ::
(nat_lit 77, ⟨(.type "tuple"), none, (.seq #[] 0), #[]⟩) ::
(nat_lit 79, ⟨(.type "code"), none, (.fields #[(.str ("_siftup") 339), (.str ("_siftup") 340), (.str ("/claim/cut.py") 341), (.int 39 0), (.int 2 0), (.int 0 0), (.int 0 0), (.int 3 0), (.ref 74), (.bool true), (.int 276 0), (.ref 75), .none, (.ref 76), (.ref 77), (.ref 78), (.int 349 0), (.int 39 0), (.str ("/claim/cut.py") 350)]), #[]⟩) ::
(nat_lit 80, ⟨(.type "function"), none, (.func ⟨("_siftup"), ("_siftup"), a7, .stmts b7, c7, 3, [], .none, .none, .none, (.str ("cpy313.heapq") 282), none, (.ref 79), .none, 0⟩), #[]⟩) ::
(nat_lit 84, ⟨(.type "tuple"), none, (.seq #[(.int 14 0), (.int 8 0), (.int 1 0), (.int 3 0), (.int 3 0), (.int 1 0), (.int 1 0), (.int 61 0), (.int 0 0), (.int 16 0), (.int 61 0), (.int 24 0), (.int 16 0), (.int 2 0), (.int 2 0), (.int 13 0), (.int 11 0), (.int 9 0), (.int 0 0), (.int 67043328 0), (.int 126 0), (.int 126 0), (.int 0 0), (.int 0 0), (.int 0 0), (.int 0 0), (.int 0 0), (.int 1 0), (.int 1 0)] 0), #[]⟩) ::
(nat_lit 85, ⟨(.type "re.Pattern"), none, (.fields #[(.str ("=[a-fA-F0-9]{2}") 353), (.int 256 385), (.int 0 0), .none, .none, (.ref 84), (.int 0 0)]), #[]⟩) ::
(nat_lit 88, ⟨(.type "list"), none, (.seq (List.toArray ((.str ("=00") 393) :: (.str ("=01") 397) :: (.str ("=02") 401) :: (.str ("=03") 405) :: (.str ("=04") 409) :: (.str ("=05") 413) :: (.str ("=06") 417) :: (.str ("=07") 421) :: (.str ("=08") 425) :: (.str ("=09") 429) :: (.str ("=0A") 433) :: (.str ("=0B") 437) :: (.str ("=0C") 441) :: (.str ("=0D") 445) :: (.str ("=0E") 449) :: (.str ("=0F") 453) :: (.str ("=10") 457) :: (.str ("=11") 461) :: (.str ("=12") 465) :: (.str ("=13") 469) :: (.str ("=14") 473) :: (.str ("=15") 477) :: (.str ("=16") 481) :: (.str ("=17") 485) :: (.str ("=18") 489) :: (.str ("=19") 493) :: (.str ("=1A") 497) :: (.str ("=1B") 501) :: (.str ("=1C") 505) :: (.str ("=1D") 509) :: (.str ("=1E") 513) :: (.str ("=1F") 517) :: (.str ("=20") 521) :: (.str ("=21") 525) :: (.str ("=22") 529) :: (.str ("=23") 533) :: (.str ("=24") 537) :: (.str ("=25") 541) :: (.str ("=26") 545) :: (.str ("=27") 549) :: (.str ("=28") 553) :: (.str ("=29") 557) :: (.str ("=2A") 561) :: (.str ("=2B") 565) :: (.str ("=2C") 569) :: (.str ("=2D") 573) :: (.str ("=2E") 577) :: (.str ("=2F") 581) :: (.str ("=30") 585) :: (.str ("=31") 589) :: (.str ("=32") 593) :: (.str ("=33") 597) :: (.str ("=34") 601) :: (.str ("=35") 605) :: (.str ("=36") 609) :: (.str ("=37") 613) :: (.str ("=38") 617) :: (.str ("=39") 621) :: (.str ("=3A") 625) :: (.str ("=3B") 629) :: (.str ("=3C") 633) :: (.str ("=3D") 637) :: (.str ("=3E") 641) :: (.str ("=3F") 645) :: (.str ("=40") 649) :: (.str ("=41") 653) :: (.str ("=42") 657) :: (.str ("=43") 661) :: (.str ("=44") 665) :: (.str ("=45") 669) :: (.str ("=46") 673) :: (.str ("=47") 677) :: (.str ("=48") 681) :: (.str ("=49") 685) :: (.str ("=4A") 689) :: (.str ("=4B") 693) :: (.str ("=4C") 697) :: (.str ("=4D") 701) :: (.str ("=4E") 705) :: (.str ("=4F") 709) :: (.str ("=50") 713) :: (.str ("=51") 717) :: (.str ("=52") 721) :: (.str ("=53") 725) :: (.str ("=54") 729) :: (.str ("=55") 733) :: (.str ("=56") 737) :: (.str ("=57") 741) :: (.str ("=58") 745) :: (.str ("=59") 749) :: (.str ("=5A") 753) :: (.str ("=5B") 757) :: (.str ("=5C") 761) :: (.str ("=5D") 765) :: (.str ("=5E") 769) :: (.str ("=5F") 773) :: (.str ("=60") 777) :: (.str ("=61") 781) :: (.str ("=62") 785) :: (.str ("=63") 789) :: (.str ("=64") 793) :: (.str ("=65") 797) :: (.str ("=66") 801) :: (.str ("=67") 805) :: (.str ("=68") 809) :: (.str ("=69") 813) :: (.str ("=6A") 817) :: (.str ("=6B") 821) :: (.str ("=6C") 825) :: (.str ("=6D") 829) :: (.str ("=6E") 833) :: (.str ("=6F") 837) :: (.str ("=70") 841) :: (.str ("=71") 845) :: (.str ("=72") 849) :: (.str ("=73") 853) :: (.str ("=74") 857) :: (.str ("=75") 861) :: (.str ("=76") 865) :: (.str ("=77") 869) :: (.str ("=78") 873) :: (.str ("=79") 877) :: (.str ("=7A") 881) :: (.str ("=7B") 885) :: (.str ("=7C") 889) :: (.str ("=7D") 893) :: (.str ("=7E") 897) :: (.str ("=7F") 901) :: (.str ("=80") 905) :: (.str ("=81") 909) :: (.str ("=82") 913) :: (.str ("=83") 917) :: (.str ("=84") 921) :: (.str ("=85") 925) :: (.str ("=86") 929) :: (.str ("=87") 933) :: (.str ("=88") 937) :: (.str ("=89") 941) :: (.str ("=8A") 945) :: (.str ("=8B") 949) :: (.str ("=8C") 953) :: (.str ("=8D") 957) :: (.str ("=8E") 961) :: (.str ("=8F") 965) :: (.str ("=90") 969) :: (.str ("=91") 973) :: (.str ("=92") 977) :: (.str ("=93") 981) :: (.str ("=94") 985) :: (.str ("=95") 989) :: (.str ("=96") 993) :: (.str ("=97") 997) :: (.str ("=98") 1001) :: (.str ("=99") 1005) :: (.str ("=9A") 1009) :: (.str ("=9B") 1013) :: (.str ("=9C") 1017) :: (.str ("=9D") 1021) :: (.str ("=9E") 1025) :: (.str ("=9F") 1029) :: (.str ("=A0") 1033) :: (.str ("=A1") 1037) :: (.str ("=A2") 1041) :: (.str ("=A3") 1045) :: (.str ("=A4") 1049) :: (.str ("=A5") 1053) :: (.str ("=A6") 1057) :: (.str ("=A7") 1061) :: (.str ("=A8") 1065) :: (.str ("=A9") 1069) :: (.str ("=AA") 1073) :: (.str ("=AB") 1077) :: (.str ("=AC") 1081) :: (.str ("=AD") 1085) :: (.str ("=AE") 1089) :: (.str ("=AF") 1093) :: (.str ("=B0") 1097) :: (.str ("=B1") 1101) :: (.str ("=B2") 1105) :: (.str ("=B3") 1109) :: (.str ("=B4") 1113) :: (.str ("=B5") 1117) :: (.str ("=B6") 1121) :: (.str ("=B7") 1125) :: (.str ("=B8") 1129) :: (.str ("=B9") 1133) :: (.str ("=BA") 1137) :: (.str ("=BB") 1141) :: (.str ("=BC") 1145) :: (.str ("=BD") 1149) :: (.str ("=BE") 1153) :: (.str ("=BF") 1157) :: (.str ("=C0") 1161) :: (.str ("=C1") 1165) :: (.str ("=C2") 1169) :: (.str ("=C3") 1173) :: (.str ("=C4") 1177) :: (.str ("=C5") 1181) :: (.str ("=C6") 1185) :: (.str ("=C7") 1189) :: (.str ("=C8") 1193) :: (.str ("=C9") 1197) :: (.str ("=CA") 1201) :: (.str ("=CB") 1205) :: (.str ("=CC") 1209) :: (.str ("=CD") 1213) :: (.str ("=CE") 1217) :: (.str ("=CF") 1221) :: (.str ("=D0") 1225) :: (.str ("=D1") 1229) :: (.str ("=D2") 1233) :: (.str ("=D3") 1237) :: (.str ("=D4") 1241) :: (.str ("=D5") 1245) :: (.str ("=D6") 1249) :: (.str ("=D7") 1253) :: (.str ("=D8") 1257) :: (.str ("=D9") 1261) :: (.str ("=DA") 1265) :: (.str ("=DB") 1269) :: (.str ("=DC") 1273) :: (.str ("=DD") 1277) :: (.str ("=DE") 1281) :: (.str ("=DF") 1285) :: (.str ("=E0") 1289) :: (.str ("=E1") 1293) :: (.str ("=E2") 1297) :: (.str ("=E3") 1301) :: (.str ("=E4") 1305) :: (.str ("=E5") 1309) :: (.str ("=E6") 1313) :: (.str ("=E7") 1317) :: (.str ("=E8") 1321) :: (.str ("=E9") 1325) :: (.str ("=EA") 1329) :: (.str ("=EB") 1333) :: (.str ("=EC") 1337) :: (.str ("=ED") 1341) :: (.str ("=EE") 1345) :: (.str ("=EF") 1349) :: (.str ("=F0") 1353) :: (.str ("=F1") 1357) :: (.str ("=F2") 1361) :: (.str ("=F3") 1365) :: (.str ("=F4") 1369) :: (.str ("=F5") 1373) :: (.str ("=F6") 1377) :: (.str ("=F7") 1381) :: (.str ("=F8") 1385) :: (.str ("=F9") 1389) :: (.str ("=FA") 1393) :: (.str ("=FB") 1397) :: (.str ("=FC") 1401) :: (.str ("=FD") 1405) :: (.str ("=FE") 1409) :: (.str ("=FF") 1413) :: [])) 256), #[]⟩) ::
(nat_lit 93, ⟨(.type "list"), none, (.seq (List.toArray ((.str ("=00") 393) :: (.str ("=01") 397) :: (.str ("=02") 401) :: (.str ("=03") 405) :: (.str ("=04") 409) :: (.str ("=05") 413) :: (.str ("=06") 417) :: (.str ("=07") 421) :: (.str ("=08") 425) :: (.str ("=09") 429) :: (.str ("=0A") 433) :: (.str ("=0B") 437) :: (.str ("=0C") 441) :: (.str ("=0D") 445) :: (.str ("=0E") 449) :: (.str ("=0F") 453) :: (.str ("=10") 457) :: (.str ("=11") 461) :: (.str ("=12") 465) :: (.str ("=13") 469) :: (.str ("=14") 473) :: (.str ("=15") 477) :: (.str ("=16") 481) :: (.str ("=17") 485) :: (.str ("=18") 489) :: (.str ("=19") 493) :: (.str ("=1A") 497) :: (.str ("=1B") 501) :: (.str ("=1C") 505) :: (.str ("=1D") 509) :: (.str ("=1E") 513) :: (.str ("=1F") 517) :: (.str ("_") 1635) :: (.str ("!") 1439) :: (.str ("=22") 529) :: (.str ("=23") 533) :: (.str ("=24") 537) :: (.str ("=25") 541) :: (.str ("=26") 545) :: (.str ("=27") 549) :: (.str ("=28") 553) :: (.str ("=29") 557) :: (.str ("*") 1442) :: (.str ("+") 1445) :: (.str ("=2C") 569) :: (.str ("-") 1436) :: (.str ("=2E") 577) :: (.str ("/") 1448) :: (.str ("0") 1607) :: (.str ("1") 1610) :: (.str ("2") 1613) :: (.str ("3") 1616) :: (.str ("4") 1619) :: (.str ("5") 1622) :: (.str ("6") 1625) :: (.str ("7") 1628) :: (.str ("8") 1631) :: (.str ("9") 1634) :: (.str ("=3A") 625) :: (.str ("=3B") 629) :: (.str ("=3C") 633) :: (.str ("=3D") 637) :: (.str ("=3E") 641) :: (.str ("=3F") 645) :: (.str ("=40") 649) :: (.str ("A") 1529) :: (.str ("B") 1532) :: (.str ("C") 1535) :: (.str ("D") 1538) :: (.str ("E") 1541) :: (.str ("F") 1544) :: (.str ("G") 1547) :: (.str ("H") 1550) :: (.str ("I") 1553) :: (.str ("J") 1556) :: (.str ("K") 1559) :: (.str ("L") 1562) :: (.str ("M") 1565) :: (.str ("N") 1568) :: (.str ("O") 1571) :: (.str ("P") 1574) :: (.str ("Q") 1577) :: (.str ("R") 1580) :: (.str ("S") 1583) :: (.str ("T") 1586) :: (.str ("U") 1589) :: (.str ("V") 1592) :: (.str ("W") 1595) :: (.str ("X") 1598) :: (.str ("Y") 1601) :: (.str ("Z") 1604) :: (.str ("=5B") 757) :: (.str ("=5C") 761) :: (.str ("=5D") 765) :: (.str ("=5E") 769) :: (.str ("=5F") 773) :: (.str ("=60") 777) :: (.str ("a") 1451) :: (.str ("b") 1454) :: (.str ("c") 1457) :: (.str ("d") 1460) :: (.str ("e") 1463) :: (.str ("f") 1466) :: (.str ("g") 1469) :: (.str ("h") 1472) :: (.str ("i") 1475) :: (.str ("j") 1478) :: (.str ("k") 1481) :: (.str ("l") 1484) :: (.str ("m") 1487) :: (.str ("n") 1490) :: (.str ("o") 1493) :: (.str ("p") 1496) :: (.str ("q") 1499) :: (.str ("r") 1502) :: (.str ("s") 1505) :: (.str ("t") 1508) :: (.str ("u") 1511) :: (.str ("v") 1514) :: (.str ("w") 1517) :: (.str ("x") 1520) :: (.str ("y") 1523) :: (.str ("z") 1526) :: (.str ("=7B") 885) :: (.str ("=7C") 889) :: (.str ("=7D") 893) :: (.str ("=7E") 897) :: (.str ("=7F") 901) :: (.str ("=80") 905) :: (.str ("=81") 909) :: (.str ("=82") 913) :: (.str ("=83") 917) :: (.str ("=84") 921) :: (.str ("=85") 925) :: (.str ("=86") 929) :: (.str ("=87") 933) :: (.str ("=88") 937) :: (.str ("=89") 941) :: (.str ("=8A") 945) :: (.str ("=8B") 949) :: (.str ("=8C") 953) :: (.str ("=8D") 957) :: (.str ("=8E") 961) :: (.str ("=8F") 965) :: (.str ("=90") 969) :: (.str ("=91") 973) :: (.str ("=92") 977) :: (.str ("=93") 981) :: (.str ("=94") 985) :: (.str ("=95") 989) :: (.str ("=96") 993) :: (.str ("=97") 997) :: (.str ("=98") 1001) :: (.str ("=99") 1005) :: (.str ("=9A") 1009) :: (.str ("=9B") 1013) :: (.str ("=9C") 1017) :: (.str ("=9D") 1021) :: (.str ("=9E") 1025) :: (.str ("=9F") 1029) :: (.str ("=A0") 1033) :: (.str ("=A1") 1037) :: (.str ("=A2") 1041) :: (.str ("=A3") 1045) :: (.str ("=A4") 1049) :: (.str ("=A5") 1053) :: (.str ("=A6") 1057) :: (.str ("=A7") 1061) :: (.str ("=A8") 1065) :: (.str ("=A9") 1069) :: (.str ("=AA") 1073) :: (.str ("=AB") 1077) :: (.str ("=AC") 1081) :: (.str ("=AD") 1085) :: (.str ("=AE") 1089) :: (.str ("=AF") 1093) :: (.str ("=B0") 1097) :: (.str ("=B1") 1101) :: (.str ("=B2") 1105) :: (.str ("=B3") 1109) :: (.str ("=B4") 1113) :: (.str ("=B5") 1117) :: (.str ("=B6") 1121) :: (.str ("=B7") 1125) :: (.str ("=B8") 1129) :: (.str ("=B9") 1133) :: (.str ("=BA") 1137) :: (.str ("=BB") 1141) :: (.str ("=BC") 1145) :: (.str ("=BD") 1149) :: (.str ("=BE") 1153) :: (.str ("=BF") 1157) :: (.str ("=C0") 1161) :: (.str ("=C1") 1165) :: (.str ("=C2") 1169) :: (.str ("=C3") 1173) :: (.str ("=C4") 1177) :: (.str ("=C5") 1181) :: (.str ("=C6") 1185) :: (.str ("=C7") 1189) :: (.str ("=C8") 1193) :: (.str ("=C9") 1197) :: (.str ("=CA") 1201) :: (.str ("=CB") 1205) :: (.str ("=CC") 1209) :: (.str ("=CD") 1213) :: (.str ("=CE") 1217) :: (.str ("=CF") 1221) :: (.str ("=D0") 1225) :: (.str ("=D1") 1229) :: (.str ("=D2") 1233) :: (.str ("=D3") 1237) :: (.str ("=D4") 1241) :: (.str ("=D5") 1245) :: (.str ("=D6") 1249) :: (.str ("=D7") 1253) :: (.str ("=D8") 1257) :: (.str ("=D9") 1261) :: (.str ("=DA") 1265) :: (.str ("=DB") 1269) :: (.str ("=DC") 1273) :: (.str ("=DD") 1277) :: (.str ("=DE") 1281) :: (.str ("=DF") 1285) :: (.str ("=E0") 1289) :: (.str ("=E1") 1293) :: (.str ("=E2") 1297) :: (.str ("=E3") 1301) :: (.str ("=E4") 1305) :: (.str ("=E5") 1309) :: (.str ("=E6") 1313) :: (.str ("=E7") 1317) :: (.str ("=E8") 1321) :: (.str ("=E9") 1325) :: (.str ("=EA") 1329) :: (.str ("=EB") 1333) :: (.str ("=EC") 1337) :: (.str ("=ED") 1341) :: (.str ("=EE") 1345) :: (.str ("=EF") 1349) :: (.str ("=F0") 1353) :: (.str ("=F1") 1357) :: (.str ("=F2") 1361) :: (.str ("=F3") 1365) :: (.str ("=F4") 1369) :: (.str ("=F5") 1373) :: (.str ("=F6") 1377) :: (.str ("=F7") 1381) :: (.str ("=F8") 1385) :: (.str ("=F9") 1389) :: (.str ("=FA") 1393) :: (.str ("=FB") 1397) :: (.str ("=FC") 1401) :: (.str ("=FD") 1405) :: (.str ("=FE") 1409) :: (.str ("=FF") 1413) :: [])) 0), #[]⟩) ::
(nat_lit 95, ⟨(.type "list"), none, (.seq (List.toArray ((.str ("=00") 393) :: (.str ("=01") 397) :: (.str ("=02") 401) :: (.str ("=03") 405) :: (.str ("=04") 409) :: (.str ("=05") 413) :: (.str ("=06") 417) :: (.str ("=07") 421) :: (.str ("=08") 425) :: (.str ("\t") 1923) :: (.str ("=0A") 433) :: (.str ("=0B") 437) :: (.str ("=0C") 441) :: (.str ("=0D") 445) :: (.str ("=0E") 449) :: (.str ("=0F") 453) :: (.str ("=10") 457) :: (.str ("=11") 461) :: (.str ("=12") 465) :: (.str ("=13") 469) :: (.str ("=14") 473) :: (.str ("=15") 477) :: (.str ("=16") 481) :: (.str ("=17") 485) :: (.str ("=18") 489) :: (.str ("=19") 493) :: (.str ("=1A") 497) :: (.str ("=1B") 501) :: (.str ("=1C") 505) :: (.str ("=1D") 509) :: (.str ("=1E") 513) :: (.str ("=1F") 517) :: (.str (" ") 1641) :: (.str ("!") 1644) :: (.str ("\"") 1647) :: (.str ("#") 1650) :: (.str ("$") 1653) :: (.str ("%") 1656) :: (.str ("&") 1659) :: (.str ("'") 1662) :: (.str ("(") 1665) :: (.str (")") 1668) :: (.str ("*") 1671) :: (.str ("+") 1674) :: (.str (",") 1677) :: (.str ("-") 1680) :: (.str (".") 1683) :: (.str ("/") 1686) :: (.str ("0") 1689) :: (.str ("1") 1692) :: (.str ("2") 1695) :: (.str ("3") 1698) :: (.str ("4") 1701) :: (.str ("5") 1704) :: (.str ("6") 1707) :: (.str ("7") 1710) :: (.str ("8") 1713) :: (.str ("9") 1716) :: (.str (":") 1719) :: (.str (";") 1722) :: (.str ("<") 1725) :: (.str ("=3D") 637) :: (.str (">") 1728) :: (.str ("?") 1731) :: (.str ("@") 1734) :: (.str ("A") 1737) :: (.str ("B") 1740) :: (.str ("C") 1743) :: (.str ("D") 1746) :: (.str ("E") 1749) :: (.str ("F") 1752) :: (.str ("G") 1755) :: (.str ("H") 1758) :: (.str ("I") 1761) :: (.str ("J") 1764) :: (.str ("K") 1767) :: (.str ("L") 1770) :: (.str ("M") 1773) :: (.str ("N") 1776) :: (.str ("O") 1779) :: (.str ("P") 1782) :: (.str ("Q") 1785) :: (.str ("R") 1788) :: (.str ("S") 1791) :: (.str ("T") 1794) :: (.str ("U") 1797) :: (.str ("V") 1800) :: (.str ("W") 1803) :: (.str ("X") 1806) :: (.str ("Y") 1809) :: (.str ("Z") 1812) :: (.str ("[") 1815) :: (.str ("\\") 1818) :: (.str ("]") 1821) :: (.str ("^") 1824) :: (.str ("_") 1827) :: (.str ("`") 1830) :: (.str ("a") 1833) :: (.str ("b") 1836) :: (.str ("c") 1839) :: (.str ("d") 1842) :: (.str ("e") 1845) :: (.str ("f") 1848) :: (.str ("g") 1851) :: (.str ("h") 1854) :: (.str ("i") 1857) :: (.str ("j") 1860) :: (.str ("k") 1863) :: (.str ("l") 1866) :: (.str ("m") 1869) :: (.str ("n") 1872) :: (.str ("o") 1875) :: (.str ("p") 1878) :: (.str ("q") 1881) :: (.str ("r") 1884) :: (.str ("s") 1887) :: (.str ("t") 1890) :: (.str ("u") 1893) :: (.str ("v") 1896) :: (.str ("w") 1899) :: (.str ("x") 1902) :: (.str ("y") 1905) :: (.str ("z") 1908) :: (.str ("{") 1911) :: (.str ("|") 1914) :: (.str ("}") 1917) :: (.str ("~") 1920) :: (.str ("=7F") 901) :: (.str ("=80") 905) :: (.str ("=81") 909) :: (.str ("=82") 913) :: (.str ("=83") 917) :: (.str ("=84") 921) :: (.str ("=85") 925) :: (.str ("=86") 929) :: (.str ("=87") 933) :: (.str ("=88") 937) :: (.str ("=89") 941) :: (.str ("=8A") 945) :: (.str ("=8B") 949) :: (.str ("=8C") 953) :: (.str ("=8D") 957) :: (.str ("=8E") 961) :: (.str ("=8F") 965) :: (.str ("=90") 969) :: (.str ("=91") 973) :: (.str ("=92") 977) :: (.str ("=93") 981) :: (.str ("=94") 985) :: (.str ("=95") 989) :: (.str ("=96") 993) :: (.str ("=97") 997) :: (.str ("=98") 1001) :: (.str ("=99") 1005) :: (.str ("=9A") 1009) :: (.str ("=9B") 1013) :: (.str ("=9C") 1017) :: (.str ("=9D") 1021) :: (.str ("=9E") 1025) :: (.str ("=9F") 1029) :: (.str ("=A0") 1033) :: (.str ("=A1") 1037) :: (.str ("=A2") 1041) :: (.str ("=A3") 1045) :: (.str ("=A4") 1049) :: (.str ("=A5") 1053) :: (.str ("=A6") 1057) :: (.str ("=A7") 1061) :: (.str ("=A8") 1065) :: (.str ("=A9") 1069) :: (.str ("=AA") 1073) :: (.str ("=AB") 1077) :: (.str ("=AC") 1081) :: (.str ("=AD") 1085) :: (.str ("=AE") 1089) :: (.str ("=AF") 1093) :: (.str ("=B0") 1097) :: (.str ("=B1") 1101) :: (.str ("=B2") 1105) :: (.str ("=B3") 1109) :: (.str ("=B4") 1113) :: (.str ("=B5") 1117) :: (.str ("=B6") 1121) :: (.str ("=B7") 1125) :: (.str ("=B8") 1129) :: (.str ("=B9") 1133) :: (.str ("=BA") 1137) :: (.str ("=BB") 1141) :: (.str ("=BC") 1145) :: (.str ("=BD") 1149) :: (.str ("=BE") 1153) :: (.str ("=BF") 1157) :: (.str ("=C0") 1161) :: (.str ("=C1") 1165) :: (.str ("=C2") 1169) :: (.str ("=C3") 1173) :: (.str ("=C4") 1177) :: (.str ("=C5") 1181) :: (.str ("=C6") 1185) :: (.str ("=C7") 1189) :: (.str ("=C8") 1193) :: (.str ("=C9") 1197) :: (.str ("=CA") 1201) :: (.str ("=CB") 1205) :: (.str ("=CC") 1209) :: (.str ("=CD") 1213) :: (.str ("=CE") 1217) :: (.str ("=CF") 1221) :: (.str ("=D0") 1225) :: (.str ("=D1") 1229) :: (.str ("=D2") 1233) :: (.str ("=D3") 1237) :: (.str ("=D4") 1241) :: (.str ("=D5") 1245) :: (.str ("=D6") 1249) :: (.str ("=D7") 1253) :: (.str ("=D8") 1257) :: (.str ("=D9") 1261) :: (.str ("=DA") 1265) :: (.str ("=DB") 1269) :: (.str ("=DC") 1273) :: (.str ("=DD") 1277) :: (.str ("=DE") 1281) :: (.str ("=DF") 1285) :: (.str ("=E0") 1289) :: (.str ("=E1") 1293) :: (.str ("=E2") 1297) :: (.str ("=E3") 1301) :: (.str ("=E4") 1305) :: (.str ("=E5") 1309) :: (.str ("=E6") 1313) :: (.str ("=E7") 1317) :: (.str ("=E8") 1321) :: (.str ("=E9") 1325) :: (.str ("=EA") 1329) :: (.str ("=EB") 1333) :: (.str ("=EC") 1337) :: (.str ("=ED") 1341) :: (.str ("=EE") 1345) :: (.str ("=EF") 1349) :: (.str ("=F0") 1353) :: (.str ("=F1") 1357) :: (.str ("=F2") 1361) :: (.str ("=F3") 1365) :: (.str ("=F4") 1369) :: (.str ("=F5") 1373) :: (.str ("=F6") 1377) :: (.str ("=F7") 1381) :: (.str ("=F8") 1385) :: (.str ("=F9") 1389) :: (.str ("=FA") 1393) :: (.str ("=FB") 1397) :: (.str ("=FC") 1401) :: (.str ("=FD") 1405) :: (.str ("=FE") 1409) :: (.str ("=FF") 1413) :: [])) 0), #[]⟩) ::
(nat_lit 102, ⟨(.type "tuple"), none, (.seq #[] 0), #[]⟩) ::
(nat_lit 104, ⟨(.type "tuple"), none, (.seq #[(.str ("s") 1927)] 0), #[]⟩) ::
(nat_lit 105, ⟨(.type "tuple"), none, (.seq #[] 0), #[]⟩) ::
(nat_lit 107, ⟨(.type "code"), none, (.fields #[(.str ("unquote") 1924), (.str ("unquote") 1925), (.str ("/claim/cut.py") 1926), (.int 67 0), (.int 1 0), (.int 0 0), (.int 0 0), (.int 3 0), (.ref 102), (.bool true), (.int 276 0), (.ref 103), .none, (.ref 104), (.ref 105), (.ref 106), (.int 1928 0), (.int 67 0), (.str ("/claim/cut.py") 1929)]), #[]⟩) ::
(nat_lit 108, ⟨(.type "function"), none, (.func ⟨("unquote"), ("unquote"), a20, .stmts b20, c20, 3, [], .none, .none, .none, (.str ("cpy313.email.quoprimime") 1425), none, (.ref 107), .none, 0⟩), #[]⟩) ::
(nat_lit 109, ⟨(.type "tuple"), none, (.seq #[(.str ("iso-8859-1") 1931)] 0), #[]⟩) ::
(nat_lit 110, ⟨(.type "tuple"), none, (.seq #[] 0), #[]⟩) ::
(nat_lit 112, ⟨(.type "tuple"), none, (.seq #[(.str ("header_bytes") 1935), (.str ("charset") 1936), (.str ("encoded") 1937)] 0), #[]⟩) ::
(nat_lit 113, ⟨(.type "tuple"), none, (.seq #[] 0), #[]⟩) ::
(nat_lit 115, ⟨(.type "code"), none, (.fields #[(.str ("header_encode") 1932), (.str ("header_encode") 1933), (.str ("/claim/cut.py") 1934), (.int 69 0), (.int 2 0), (.int 0 0), (.int 0 0), (.int 3 0), (.ref 110), (.bool true), (.int 276 0), (.ref 111), .none, (.ref 112), (.ref 113), (.ref 114), (.int 1938 0), (.int 69 0), (.str ("/claim/cut.py") 1939)]), #[]⟩) ::
(nat_lit 116, ⟨(.type "function"), none, (.func ⟨("header_encode"), ("header_encode"), a21, .stmts b21, c21, 3, [], (.ref 109), .none, .none, (.str ("cpy313.email.quoprimime") 1425), none, (.ref 115), .none, 0⟩), #[]⟩) ::
(nat_lit 118, ⟨(.type "list"), none, (.seq (List.toArray ((.str ("=00") 393) :: (.str ("=01") 397) :: (.str ("=02") 401) :: (.str ("=03") 405) :: (.str ("=04") 409) :: (.str ("=05") 413) :: (.str ("=06") 417) :: (.str ("=07") 421) :: (.str ("=08") 425) :: (.str ("\t") 1923) :: (.str ("\n") 1948) :: (.str ("=0B") 437) :: (.str ("=0C") 441) :: (.str ("\x0d") 1945) :: (.str ("=0E") 449) :: (.str ("=0F") 453) :: (.str ("=10") 457) :: (.str ("=11") 461) :: (.str ("=12") 465) :: (.str ("=13") 469) :: (.str ("=14") 473) :: (.str ("=15") 477) :: (.str ("=16") 481) :: (.str ("=17") 485) :: (.str ("=18") 489) :: (.str ("=19") 493) :: (.str ("=1A") 497) :: (.str ("=1B") 501) :: (.str ("=1C") 505) :: (.str ("=1D") 509) :: (.str ("=1E") 513) :: (.str ("=1F") 517) :: (.str (" ") 1641) :: (.str ("!") 1644) :: (.str ("\"") 1647) :: (.str ("#") 1650) :: (.str ("$") 1653) :: (.str ("%") 1656) :: (.str ("&") 1659) :: (.str ("'") 1662) :: (.str ("(") 1665) :: (.str (")") 1668) :: (.str ("*") 1671) :: (.str ("+") 1674) :: (.str (",") 1677) :: (.str ("-") 1680) :: (.str (".") 1683) :: (.str ("/") 1686) :: (.str ("0") 1689) :: (.str ("1") 1692) :: (.str ("2") 1695) :: (.str ("3") 1698) :: (.str ("4") 1701) :: (.str ("5") 1704) :: (.str ("6") 1707) :: (.str ("7") 1710) :: (.str ("8") 1713) :: (.str ("9") 1716) :: (.str (":") 1719) :: (.str (";") 1722) :: (.str ("<") 1725) :: (.str ("=3D") 637) :: (.str (">") 1728) :: (.str ("?") 1731) :: (.str ("@") 1734) :: (.str ("A") 1737) :: (.str ("B") 1740) :: (.str ("C") 1743) :: (.str ("D") 1746) :: (.str ("E") 1749) :: (.str ("F") 1752) :: (.str ("G") 1755) :: (.str ("H") 1758) :: (.str ("I") 1761) :: (.str ("J") 1764) :: (.str ("K") 1767) :: (.str ("L") 1770) :: (.str ("M") 1773) :: (.str ("N") 1776) :: (.str ("O") 1779) :: (.str ("P") 1782) :: (.str ("Q") 1785) :: (.str ("R") 1788) :: (.str ("S") 1791) :: (.str ("T") 1794) :: (.str ("U") 1797) :: (.str ("V") 1800) :: (.str ("W") 1803) :: (.str ("X") 1806) :: (.str ("Y") 1809) :: (.str ("Z") 1812) :: (.str ("[") 1815) :: (.str ("\\") 1818) :: (.str ("]") 1821) :: (.str ("^") 1824) :: (.str ("_") 1827) :: (.str ("`") 1830) :: (.str ("a") 1833) :: (.str ("b") 1836) :: (.str ("c") 1839) :: (.str ("d") 1842) :: (.str ("e") 1845) :: (.str ("f") 1848) :: (.str ("g") 1851) :: (.str ("h") 1854) :: (.str ("i") 1857) :: (.str ("j") 1860) :: (.str ("k") 1863) :: (.str ("l") 1866) :: (.str ("m") 1869) :: (.str ("n") 1872) :: (.str ("o") 1875) :: (.str ("p") 1878) :: (.str ("q") 1881) :: (.str ("r") 1884) :: (.str ("s") 1887) :: (.str ("t") 1890) :: (.str ("u") 1893) :: (.str ("v") 1896) :: (.str ("w") 1899) :: (.str ("x") 1902) :: (.str ("y") 1905) :: (.str ("z") 1908) :: (.str ("{") 1911) :: (.str ("|") 1914) :: (.str ("}") 1917) :: (.str ("~") 1920) :: (.str ("=7F") 901) :: (.str ("=80") 905) :: (.str ("=81") 909) :: (.str ("=82") 913) :: (.str ("=83") 917) :: (.str ("=84") 921) :: (.str ("=85") 925) :: (.str ("=86") 929) :: (.str ("=87") 933) :: (.str ("=88") 937) :: (.str ("=89") 941) :: (.str ("=8A") 945) :: (.str ("=8B") 949) :: (.str ("=8C") 953) :: (.str ("=8D") 957) :: (.str ("=8E") 961) :: (.str ("=8F") 965) :: (.str ("=90") 969) :: (.str ("=91") 973) :: (.str ("=92") 977) :: (.str ("=93") 981) :: (.str ("=94") 985) :: (.str ("=95") 989) :: (.str ("=96") 993) :: (.str ("=97") 997) :: (.str ("=98") 1001) :: (.str ("=99") 1005) :: (.str ("=9A") 1009) :: (.str ("=9B") 1013) :: (.str ("=9C") 1017) :: (.str ("=9D") 1021) :: (.str ("=9E") 1025) :: (.str ("=9F") 1029) :: (.str ("=A0") 1033) :: (.str ("=A1") 1037) :: (.str ("=A2") 1041) :: (.str ("=A3") 1045) :: (.str ("=A4") 1049) :: (.str ("=A5") 1053) :: (.str ("=A6") 1057) :: (.str ("=A7") 1061) :: (.str ("=A8") 1065) :: (.str ("=A9") 1069) :: (.str ("=AA") 1073) :: (.str ("=AB") 1077) :: (.str ("=AC") 1081) :: (.str ("=AD") 1085) :: (.str ("=AE") 1089) :: (.str ("=AF") 1093) :: (.str ("=B0") 1097) :: (.str ("=B1") 1101) :: (.str ("=B2") 1105) :: (.str ("=B3") 1109) :: (.str ("=B4") 1113) :: (.str ("=B5") 1117) :: (.str ("=B6") 1121) :: (.str ("=B7") 1125) :: (.str ("=B8") 1129) :: (.str ("=B9") 1133) :: (.str ("=BA") 1137) :: (.str ("=BB") 1141) :: (.str ("=BC") 1145) :: (.str ("=BD") 1149) :: (.str ("=BE") 1153) :: (.str ("=BF") 1157) :: (.str ("=C0") 1161) :: (.str ("=C1") 1165) :: (.str ("=C2") 1169) :: (.str ("=C3") 1173) :: (.str ("=C4") 1177) :: (.str ("=C5") 1181) :: (.str ("=C6") 1185) :: (.str ("=C7") 1189) :: (.str ("=C8") 1193) :: (.str ("=C9") 1197) :: (.str ("=CA") 1201) :: (.str ("=CB") 1205) :: (.str ("=CC") 1209) :: (.str ("=CD") 1213) :: (.str ("=CE") 1217) :: (.str ("=CF") 1221) :: (.str ("=D0") 1225) :: (.str ("=D1") 1229) :: (.str ("=D2") 1233) :: (.str ("=D3") 1237) :: (.str ("=D4") 1241) :: (.str ("=D5") 1245) :: (.str ("=D6") 1249) :: (.str ("=D7") 1253) :: (.str ("=D8") 1257) :: (.str ("=D9") 1261) :: (.str ("=DA") 1265) :: (.str ("=DB") 1269) :: (.str ("=DC") 1273) :: (.str ("=DD") 1277) :: (.str ("=DE") 1281) :: (.str ("=DF") 1285) :: (.str ("=E0") 1289) :: (.str ("=E1") 1293) :: (.str ("=E2") 1297) :: (.str ("=E3") 1301) :: (.str ("=E4") 1305) :: (.str ("=E5") 1309) :: (.str ("=E6") 1313) :: (.str ("=E7") 1317) :: (.str ("=E8") 1321) :: (.str ("=E9") 1325) :: (.str ("=EA") 1329) :: (.str ("=EB") 1333) :: (.str ("=EC") 1337) :: (.str ("=ED") 1341) :: (.str ("=EE") 1345) :: (.str ("=EF") 1349) :: (.str ("=F0") 1353) :: (.str ("=F1") 1357) :: (.str ("=F2") 1361) :: (.str ("=F3") 1365) :: (.str ("=F4") 1369) :: (.str ("=F5") 1373) :: (.str ("=F6") 1377) :: (.str ("=F7") 1381) :: (.str ("=F8") 1385) :: (.str ("=F9") 1389) :: (.str ("=FA") 1393) :: (.str ("=FB") 1397) :: (.str ("=FC") 1401) :: (.str ("=FD") 1405) :: (.str ("=FE") 1409) :: (.str ("=FF") 1413) :: [])) 0), #[]⟩) ::
(nat_lit 122, ⟨(.type "tuple"), none, (.seq #[] 0), #[]⟩) ::
(nat_lit 124, ⟨(.type "tuple"), none, (.seq #[(.str ("match") 1952), (.str ("s") 1953)] 0), #[]⟩) ::
(nat_lit 125, ⟨(.type "tuple"), none, (.seq #[] 0), #[]⟩) ::
(nat_lit 127, ⟨(.type "code"), none, (.fields #[(.str ("_unquote_match") 1949), (.str ("_unquote_match") 1950), (.str ("/claim/cut.py") 1951), (.int 78 0), (.int 1 0), (.int 0 0), (.int 0 0), (.int 3 0), (.ref 122), (.bool true), (.int 276 0), (.ref 123), .none, (.ref 124), (.ref 125), (.ref 126), (.int 1954 0), (.int 78 0), (.str ("/claim/cut.py") 1955)]), #[]⟩) ::
(nat_lit 128, ⟨(.type "function"), none, (.func ⟨("_unquote_match"), ("_unquote_match"), a25, .stmts b25, c25, 3, [], .none, .none, .none, (.str ("cpy313.email.quoprimime") 1425), none, (.ref 127), .none, 0⟩), #[]⟩) ::
(nat_lit 129, ⟨(.type "tuple"), none, (.seq #[] 0), #[]⟩) ::
(nat_lit 131, ⟨(.type "tuple"), none, (.seq #[(.str ("s") 1960)] 0), #[]⟩) ::
(nat_lit 132, ⟨(.type "tuple"), none, (.seq #[] 0), #[]⟩) ::
(nat_lit 134, ⟨(.type "code"), none, (.fields #[(.str ("header_decode") 1957), (.str ("header_decode") 1958), (.str ("/claim/cut.py") 1959), (.int 81 0), (.int 1 0), (.int 0 0), (.int 0 0), (.int 3 0), (.ref 129), (.bool true), (.int 276 0), (.ref 130), .none, (.ref 131), (.ref 132), (.ref 133), (.int 1961 0), (.int 81 0), (.str ("/claim/cut.py") 1962)]), #[]⟩) ::
(nat_lit 135, ⟨(.type "function"), none, (.func ⟨("header_decode"), ("header_decode"), a26, .stmts b26, c26, 3, [], .none, .none, .none, (.str ("cpy313.email.quoprimime") 1425), none, (.ref 134), .none, 0⟩), #[]⟩) ::
(nat_lit 136, ⟨(.type "tuple"), none, (.seq #[] 0), #[]⟩) ::
(nat_lit 138, ⟨(.type "tuple"), none, (.seq #[(.str ("number") 1969), (.str ("borders") 1970), (.str ("octets") 1971), (.str ("figure") 1972)] 0), #[]⟩) ::
(nat_lit 139, ⟨(.type "tuple"), none, (.seq #[] 0), #[]⟩) ::
(nat_lit 141, ⟨(.type "code"), none, (.fields #[(.str ("_law_octets") 1966), (.str ("_law_octets") 1967), (.str ("/claim/cut.py") 1968), (.int 85 0), (.int 1 0), (.int 0 0), (.int 0 0), (.int 3 0), (.ref 136), (.bool true), (.int 276 0), (.ref 137), .none, (.ref 138), (.ref 139), (.ref 140), (.int 1973 0), (.int 85 0), (.str ("/claim/cut.py") 1974)]), #[]⟩) ::
(nat_lit 142, ⟨(.type "function"), none, (.func ⟨("_law_octets"), ("_law_octets"), a28, .stmts b28, c28, 3, [], .none, .none, .none, (.str ("law_ny0134_01") 1964), none, (.ref 141), .none, 0⟩), #[]⟩) ::
(nat_lit 143, ⟨(.type "tuple"), none, (.seq #[] 0), #[]⟩) ::
(nat_lit 145, ⟨(.type "tuple"), none, (.seq #[(.str ("octet") 1979)] 0), #[]⟩) ::
(nat_lit 146, ⟨(.type "tuple"), none, (.seq #[] 0), #[]⟩) ::
(nat_lit 148, ⟨(.type "code"), none, (.fields #[(.str ("_law_as_it_is") 1976), (.str ("_law_as_it_is") 1977), (.str ("/claim/cut.py") 1978), (.int 93 0), (.int 1 0), (.int 0 0), (.int 0 0), (.int 3 0), (.ref 143), (.bool true), (.int 276 0), (.ref 144), .none, (.ref 145), (.ref 146), (.ref 147), (.int 1980 0), (.int 93 0), (.str ("/claim/cut.py") 1981)]), #[]⟩) ::
(nat_lit 149, ⟨(.type "function"), none, (.func ⟨("_law_as_it_is"), ("_law_as_it_is"), a29, .stmts b29, c29, 3, [], .none, .none, .none, (.str ("law_ny0134_01") 1964), none, (.ref 148), .none, 0⟩), #[]⟩) ::
(nat_lit 150, ⟨(.type "tuple"), none, (.seq #[] 0), #[]⟩) ::
(nat_lit 152, ⟨(.type "tuple"), none, (.seq #[(.str ("octets") 1986), (.str ("charset") 1987), (.str ("figures") 1988), (.str ("word") 1989), (.str ("octet") 1990)] 0), #[]⟩) ::
(nat_lit 153, ⟨(.type "tuple"), none, (.seq #[] 0), #[]⟩) ::
(nat_lit 155, ⟨(.type "code"), none, (.fields #[(.str ("_law_word") 1983), (.str ("_law_word") 1984), (.str ("/claim/cut.py") 1985), (.int 95 0), (.int 2 0), (.int 0 0), (.int 0 0), (.int 3 0), (.ref 150), (.bool true), (.int 276 0), (.ref 151), .none, (.ref 152), (.ref 153), (.ref 154), (.int 1991 0), (.int 95 0), (.str ("/claim/cut.py") 1992)]), #[]⟩) ::
(nat_lit 156, ⟨(.type "function"), none, (.func ⟨("_law_word"), ("_law_word"), a30, .stmts b30, c30, 3, [], .none, .none, .none, (.str ("law_ny0134_01") 1964), none, (.ref 155), .none, 0⟩), #[]⟩) ::
(nat_lit 157, ⟨(.type "tuple"), none, (.seq #[] 0), #[]⟩) ::
(nat_lit 160, ⟨(.type "code"), none, (.fields #[(.str ("_law_ranks") 1994), (.str ("_law_ranks") 1995), (.str ("/claim/cut.py") 1996), (.int 108 0), (.int 2 0), (.int 0 0), (.int 0 0), (.int 3 0), (.ref 157), (.bool true), (.int 276 0), (.ref 158), .none, .none, .none, (.ref 159), (.int 1997 0), (.int 108 0), (.str ("/claim/cut.py") 1998)]), #[]⟩) ::
(nat_lit 161, ⟨(.type "function"), none, (.func ⟨("_law_ranks"), ("_law_ranks"), a31, .stmts b31, c31, 3, [], .none, .none, .none, (.str ("law_ny0134_01") 1964), none, (.ref 160), .none, 0⟩), #[]⟩) ::
(nat_lit 162, ⟨(.type "tuple"), none, (.seq #[] 0), #[]⟩) ::
(nat_lit 165, ⟨(.type "code"), none, (.fields #[(.str ("law") 2000), (.str ("law") 2001), (.str ("/claim/cut.py") 2002), (.int 120 0), (.int 1 0), (.int 0 0), (.int 0 0), (.int 3 0), (.ref 162), (.bool true), (.int 276 0), (.ref 163), .none, .none, .none, (.ref 164), (.int 2003 0), (.int 120 0), (.str ("/claim/cut.py") 2004)]), #[]⟩) ::
(nat_lit 166, ⟨(.type "function"), none, (.func ⟨("law"), ("law"), a32, .stmts b32, c32, 3, [], .none, .none, .none, (.str ("law_ny0134_01") 1964), none, (.ref 165), .none, 0⟩), #[]⟩) :: []
namespace H
def addrs : List Addr := [2, 3, 6, 11, 12, 32, 34, 35, 37, 38, 39, 41, 42, 44, 45, 46, 48, 49, 51, 52, 53, 55, 56, 58, 59, 60, 62, 63, 65, 66, 67, 69, 70, 72, 73, 74, 76, 77, 79, 80, 84, 85, 88, 93, 95, 102, 104, 105, 107, 108, 109, 110, 112, 113, 115, 116, 118, 122, 124, 125, 127, 128, 129, 131, 132, 134, 135, 136, 138, 139, 141, 142, 143, 145, 146, 148, 149, 150, 152, 153, 155, 156, 157, 160, 161, 162, 165, 166]
theorem heap_eq : hd.heap_39 = KG Str.ofString PySem.Challenge.pw_ny0134_01 := by kernel_rfl
theorem addrs_eq (P : Params) : addrs = (hd.heap_39 P).map (·.1) := by kernel_rfl
noncomputable def F (s : String) : Str := ⟨⟨R.mapR Char.toNat (S.toListS s)⟩⟩
theorem F_eq : Str.ofString = F := by
  funext s
  rw [Str.ofString_eq_toList]
  unfold F
  rw [← S.toListS_eq, ← R.mapR_eq]
noncomputable def qvOf (p : Program) : Program := { p with main := { p.main with body := [nthS p.main.body 0, nthS p.main.body 2, nthS p.main.body 3, nthS p.main.body 4, nthS p.main.body 5, nthS p.main.body 6, nthS p.main.body 7, nthS p.main.body 8, nthS p.main.body 9, nthS p.main.body 10, nthS p.main.body 11, nthS p.main.body 12, nthS p.main.body 13, nthS p.main.body 14, nthS p.main.body 15, nthS p.main.body 16, nthS p.main.body 21, nthS p.main.body 23, nthS p.main.body 26, nthS p.main.body 27, nthS p.main.body 29, nthS p.main.body 30, nthS p.main.body 31, nthS p.main.body 32, nthS p.main.body 33] } }
def looseOf (f : String → Str) : List Str := [f "_twin_re_1", f "_QUOPRI_MAP", f "_QUOPRI_HEADER_MAP", f "_QUOPRI_BODY_MAP", f "ascii_letters", f "header_encode", f "_QUOPRI_BODY_ENCODE_MAP"]
def lvOf (f : String → Str) : List (Str × WData) := [(f "ascii_letters", .str ⟨⟨[97, 98, 99, 100, 101, 102, 103, 104, 105, 106, 107, 108, 109, 110, 111, 112, 113, 114, 115, 116, 117, 118, 119, 120, 121, 122, 65, 66, 67, 68, 69, 70, 71, 72, 73, 74, 75, 76, 77, 78, 79, 80, 81, 82, 83, 84, 85, 86, 87, 88, 89, 90]⟩⟩)]
noncomputable def XtOf (p : Program) (f : String → Str) (s : Shared) : Bool := xlAt (qvOf p) (lvOf f) s && recOk (RowW.records (OpenRow.toRowW PySem.Challenge.rw_ny0134_01.row)) s
theorem look3 (w : World) (os : OsState) : addrs.map (W8 w.params os).heap.get? = (KG F Q w.params).map fun p => some p.2 := by kernel_rfl
theorem look1a (w : World) : staticsOk (importedModules Q.main.body) (H0 w.params) (H8 w.params) = true := by kernel_rfl
theorem look1b (w : World) : namesBound Q (H8 w.params) = true := by kernel_rfl
theorem look1c (w : World) (os : OsState) : gensDone (W8 w.params os) = true := by kernel_rfl
theorem look1d (w : World) : laidKept (H0 w.params) (H8 w.params) = true := by kernel_rfl
theorem size (w : World) : ((H0 w.params).isNs mainGlobals && (Array.mk [] : Array GenState).size == 0, (H0 w.params).objs.size, (H0 w.params).nsMap mainGlobals "__annotations__") = (true, nat_lit 28, ann0) := by kernel_rfl
noncomputable abbrev qF : Program := qvOf Q
noncomputable abbrev lF : List Str := looseOf F
theorem s1 (w : World) (os : OsState) : seen ((recsOf qF).map (·.name)) (ownsOf qF) [] { (W8 w.params os) with gens := #[] } = expectedOf qF := by kernel_rfl
theorem s2 (w : World) (os : OsState) : (W8 w.params os).heap.bltView = bltViewBooted := by kernel_rfl
theorem s3a (w : World) (os : OsState) : (W8 w.params os).heap.keysOk (looseW qF lF) ((recsOf qF).map (·.name)) ((litsOf qF).map (·.1)) ((clssOf qF (looseW qF lF)).map (·.name)) = true := by kernel_rfl
theorem s3b (w : World) (os : OsState) : (W8 w.params os).heap.accountedOkI (importedModules Q.main.body) = true := by kernel_rfl
theorem s3c (w : World) (os : OsState) : ((W8 w.params os).heap.isNs mainGlobals && (W8 w.params os).heap.isNs builtinsNs && tablesOk qF (W8 w.params os).heap) = true := by kernel_rfl
theorem s3d (w : World) (os : OsState) : XtOf Q F (W8 w.params os) = true := by kernel_rfl
theorem s4 (w : World) (os : OsState) : tabsOk qF (W8 w.params os) = true := by kernel_rfl
theorem s5 (w : World) (os : OsState) : pinSeenD qF (drecsOf qF) (W8 w.params os) = pinGoodD (drecsOf qF) := by kernel_rfl
theorem s6 (w : World) (os : OsState) : plainSeenE qF (looseW qF lF) (W8 w.params os) = plainGoodE qF (looseW qF lF) := by kernel_rfl
theorem s7 (w : World) (os : OsState) : plainSeenD qF lF (W8 w.params os) = plainGoodD qF lF := by kernel_rfl
theorem s8 (w : World) (os : OsState) : wideSeen qF (W8 w.params os) = wideGood qF := by kernel_rfl
theorem s9 (w : World) (os : OsState) : clsSeenW qF lF (W8 w.params os) = clsGoodW qF lF := by kernel_rfl
theorem pair_eq {α β : Type} {a a' : α} {b b' : β} (x : a = a') (y : b = b') : (a, b) = (a', b') := by rw [x, y]
theorem look2 (w : World) (os : OsState) : openSeen qF lF (importedModules Q.main.body) (XtOf Q F) true (W8 w.params os) = openGood qF lF := by
  unfold openSeen openGood
  refine pair_eq (s1 w os) (pair_eq (s2 w os) (pair_eq ?_ (pair_eq (s4 w os) (pair_eq (s5 w os) (pair_eq (s6 w os) (pair_eq (s7 w os) (pair_eq (s8 w os) (s9 w os))))))))
  have c := s3c w os
  simp only [Bool.and_eq_true] at c
  rw [s3a w os, s3b w os, c.1.1, c.1.2, c.2, s3d w os]
  rfl
theorem look1 (w : World) (os : OsState) : (staticsOk (importedModules Q.main.body) (H0 w.params) (H8 w.params) && namesBound Q (H8 w.params) && gensDone (W8 w.params os) && laidKept (H0 w.params) (H8 w.params)) = true := by
  rw [look1a w, look1b w, look1c w os, look1d w]; rfl
theorem lp9_0 : ∀ (w : World), pL9 (nat_lit 1) (nat_lit 16) (nat_lit 555) w :=
  byRow2 "special-get-raises" (fun w os => by kernel_rfl) (fun w os => by kernel_rfl)
theorem lp9_1 : ∀ (w : World), pL9 (nat_lit 16) (nat_lit 32) (nat_lit 592) w :=
  byRow2 "special-get-raises" (fun w os => by kernel_rfl) (fun w os => by kernel_rfl)
theorem lp9_2 : ∀ (w : World), pL9 (nat_lit 32) (nat_lit 48) (nat_lit 592) w :=
  byRow2 "special-get-raises" (fun w os => by kernel_rfl) (fun w os => by kernel_rfl)
theorem lp9_3 : ∀ (w : World), pL9 (nat_lit 48) (nat_lit 64) (nat_lit 592) w :=
  byRow2 "special-get-raises" (fun w os => by kernel_rfl) (fun w os => by kernel_rfl)
theorem lp9_4 : ∀ (w : World), pL9 (nat_lit 64) (nat_lit 80) (nat_lit 592) w :=
  byRow2 "special-get-raises" (fun w os => by kernel_rfl) (fun w os => by kernel_rfl)
theorem lp9_5 : ∀ (w : World), pL9 (nat_lit 80) (nat_lit 96) (nat_lit 592) w :=
  byRow2 "special-get-raises" (fun w os => by kernel_rfl) (fun w os => by kernel_rfl)
theorem lp9_6 : ∀ (w : World), pL9 (nat_lit 96) (nat_lit 112) (nat_lit 592) w :=
  byRow2 "special-get-raises" (fun w os => by kernel_rfl) (fun w os => by kernel_rfl)
theorem lp9_7 : ∀ (w : World), pL9 (nat_lit 112) (nat_lit 128) (nat_lit 592) w :=
  byRow2 "special-get-raises" (fun w os => by kernel_rfl) (fun w os => by kernel_rfl)
theorem lp9_8 : ∀ (w : World), pL9 (nat_lit 128) (nat_lit 144) (nat_lit 592) w :=
  byRow2 "special-get-raises" (fun w os => by kernel_rfl) (fun w os => by kernel_rfl)
theorem lp9_9 : ∀ (w : World), pL9 (nat_lit 144) (nat_lit 160) (nat_lit 592) w :=
  byRow2 "special-get-raises" (fun w os => by kernel_rfl) (fun w os => by kernel_rfl)
theorem lp9_10 : ∀ (w : World), pL9 (nat_lit 160) (nat_lit 176) (nat_lit 592) w :=
  byRow2 "special-get-raises" (fun w os => by kernel_rfl) (fun w os => by kernel_rfl)
theorem lp9_11 : ∀ (w : World), pL9 (nat_lit 176) (nat_lit 192) (nat_lit 592) w :=
  byRow2 "special-get-raises" (fun w os => by kernel_rfl) (fun w os => by kernel_rfl)
theorem lp9_12 : ∀ (w : World), pL9 (nat_lit 192) (nat_lit 208) (nat_lit 592) w :=
  byRow2 "special-get-raises" (fun w os => by kernel_rfl) (fun w os => by kernel_rfl)
theorem lp9_13 : ∀ (w : World), pL9 (nat_lit 208) (nat_lit 224) (nat_lit 592) w :=
  byRow2 "special-get-raises" (fun w os => by kernel_rfl) (fun w os => by kernel_rfl)
theorem lp9_14 : ∀ (w : World), pL9 (nat_lit 224) (nat_lit 240) (nat_lit 592) w :=
  byRow2 "special-get-raises" (fun w os => by kernel_rfl) (fun w os => by kernel_rfl)
theorem lp9_15 : ∀ (w : World), pL9 (nat_lit 240) (nat_lit 256) (nat_lit 592) w :=
  byRow2 "special-get-raises" (fun w os => by kernel_rfl) (fun w os => by kernel_rfl)
theorem lp17_0 : ∀ (w : World), pL17 (nat_lit 1) (nat_lit 16) (nat_lit 675) w :=
  byRow2 "special-get-raises" (fun w os => by kernel_rfl) (fun w os => by kernel_rfl)
theorem lp17_1 : ∀ (w : World), pL17 (nat_lit 16) (nat_lit 32) (nat_lit 720) w :=
  byRow2 "special-get-raises" (fun w os => by kernel_rfl) (fun w os => by kernel_rfl)
theorem lp17_2 : ∀ (w : World), pL17 (nat_lit 32) (nat_lit 48) (nat_lit 720) w :=
  byRow2 "special-get-raises" (fun w os => by kernel_rfl) (fun w os => by kernel_rfl)
theorem lp17_3 : ∀ (w : World), pL17 (nat_lit 48) (nat_lit 64) (nat_lit 720) w :=
  byRow2 "special-get-raises" (fun w os => by kernel_rfl) (fun w os => by kernel_rfl)
theorem lp17_4 : ∀ (w : World), pL17 (nat_lit 64) (nat_lit 67) (nat_lit 135) w :=
  byRow2 "special-get-raises" (fun w os => by kernel_rfl) (fun w os => by kernel_rfl)
theorem lp19_0 : ∀ (w : World), pL19 (nat_lit 1) (nat_lit 16) (nat_lit 675) w :=
  byRow2 "special-get-raises" (fun w os => by kernel_rfl) (fun w os => by kernel_rfl)
theorem lp19_1 : ∀ (w : World), pL19 (nat_lit 16) (nat_lit 32) (nat_lit 720) w :=
  byRow2 "special-get-raises" (fun w os => by kernel_rfl) (fun w os => by kernel_rfl)
theorem lp19_2 : ∀ (w : World), pL19 (nat_lit 32) (nat_lit 48) (nat_lit 720) w :=
  byRow2 "special-get-raises" (fun w os => by kernel_rfl) (fun w os => by kernel_rfl)
theorem lp19_3 : ∀ (w : World), pL19 (nat_lit 48) (nat_lit 64) (nat_lit 720) w :=
  byRow2 "special-get-raises" (fun w os => by kernel_rfl) (fun w os => by kernel_rfl)
theorem lp19_4 : ∀ (w : World), pL19 (nat_lit 64) (nat_lit 80) (nat_lit 720) w :=
  byRow2 "special-get-raises" (fun w os => by kernel_rfl) (fun w os => by kernel_rfl)
theorem lp19_5 : ∀ (w : World), pL19 (nat_lit 80) (nat_lit 95) (nat_lit 675) w :=
  byRow2 "special-get-raises" (fun w os => by kernel_rfl) (fun w os => by kernel_rfl)
theorem step_go {w : World} {n N : Nat} {s s' : SharedT} {t t' : Thread} {r : Flow × Shared × Code × Pos} (h : GoT w n s t = some (s', t')) (k : segRun treeTable Q w (nat_lit 28) ann0 (nat_lit 1) N s'.abs t' = some r) : segRun treeTable Q w (nat_lit 28) ann0 (nat_lit 1) (n + N) s.abs t = some r := seg_go (go_of h) k
theorem e9b : ∀ (w : World) (os : OsState), RunT w (nat_lit 50) (S9 (nat_lit 256) w.params os) (th9 w os) = some (.next, S2 w.params os, cd0, ⟨54, 0, 54, 11⟩) := fun w os => by kernel_rfl
theorem run9f (w : World) (os : OsState) : segRun treeTable Q w (nat_lit 28) ann0 (nat_lit 1) ((nat_lit 555) + ((nat_lit 592) + ((nat_lit 592) + ((nat_lit 592) + ((nat_lit 592) + ((nat_lit 592) + ((nat_lit 592) + ((nat_lit 592) + ((nat_lit 592) + ((nat_lit 592) + ((nat_lit 592) + ((nat_lit 592) + ((nat_lit 592) + ((nat_lit 592) + ((nat_lit 592) + ((nat_lit 592) + (nat_lit 40))))))))))))))))) (S9 (nat_lit 1) w.params os).abs (th9 w os) = some (.next, (S2 w.params os).abs, cd0, ⟨54, 0, 54, 11⟩) :=
  step_go (lp9_0 w os) (step_go (lp9_1 w os) (step_go (lp9_2 w os) (step_go (lp9_3 w os) (step_go (lp9_4 w os) (step_go (lp9_5 w os) (step_go (lp9_6 w os) (step_go (lp9_7 w os) (step_go (lp9_8 w os) (step_go (lp9_9 w os) (step_go (lp9_10 w os) (step_go (lp9_11 w os) (step_go (lp9_12 w os) (step_go (lp9_13 w os) (step_go (lp9_14 w os) (step_go (lp9_15 w os) (run_of (e9 w os)))))))))))))))))
theorem run9t (w : World) (os : OsState) : segRun treeTable Q w (nat_lit 28) ann0 (nat_lit 1) ((nat_lit 555) + ((nat_lit 592) + ((nat_lit 592) + ((nat_lit 592) + ((nat_lit 592) + ((nat_lit 592) + ((nat_lit 592) + ((nat_lit 592) + ((nat_lit 592) + ((nat_lit 592) + ((nat_lit 592) + ((nat_lit 592) + ((nat_lit 592) + ((nat_lit 592) + ((nat_lit 592) + ((nat_lit 592) + (nat_lit 50))))))))))))))))) (S9 (nat_lit 1) w.params os).abs (th9 w os) = some (.next, (S2 w.params os).abs, cd0, ⟨54, 0, 54, 11⟩) :=
  step_go (lp9_0 w os) (step_go (lp9_1 w os) (step_go (lp9_2 w os) (step_go (lp9_3 w os) (step_go (lp9_4 w os) (step_go (lp9_5 w os) (step_go (lp9_6 w os) (step_go (lp9_7 w os) (step_go (lp9_8 w os) (step_go (lp9_9 w os) (step_go (lp9_10 w os) (step_go (lp9_11 w os) (step_go (lp9_12 w os) (step_go (lp9_13 w os) (step_go (lp9_14 w os) (step_go (lp9_15 w os) (run_of (e9b w os)))))))))))))))))
theorem run17x (w : World) (os : OsState) : segRun treeTable Q w (nat_lit 28) ann0 (nat_lit 1) ((nat_lit 675) + ((nat_lit 720) + ((nat_lit 720) + ((nat_lit 720) + ((nat_lit 135) + (nat_lit 18)))))) (S17 (nat_lit 1) w.params os).abs (th17 w os) = some (.next, (S4 w.params os).abs, cd0, ⟨62, 9, 62, 74⟩) :=
  step_go (lp17_0 w os) (step_go (lp17_1 w os) (step_go (lp17_2 w os) (step_go (lp17_3 w os) (step_go (lp17_4 w os) (run_of (e17 w os))))))
theorem run19x (w : World) (os : OsState) : segRun treeTable Q w (nat_lit 28) ann0 (nat_lit 1) ((nat_lit 675) + ((nat_lit 720) + ((nat_lit 720) + ((nat_lit 720) + ((nat_lit 720) + ((nat_lit 675) + (nat_lit 18))))))) (S19 (nat_lit 1) w.params os).abs (th19 w os) = some (.next, (S6 w.params os).abs, cd0, ⟨65, 9, 65, 110⟩) :=
  step_go (lp19_0 w os) (step_go (lp19_1 w os) (step_go (lp19_2 w os) (step_go (lp19_3 w os) (step_go (lp19_4 w os) (step_go (lp19_5 w os) (run_of (e19 w os)))))))
theorem run9 : ∀ (w : World) (os : OsState), segRun treeTable Q w (nat_lit 28) ann0 (nat_lit 1) (nat_lit 9564) (S1 w.params os).abs ps9 = some (.next, (S2 w.params os).abs, cd0, ⟨54, 0, 54, 11⟩) :=
  byRow2 "comprehension-iter-twice" (P := fun w => ∀ os : OsState, segRun treeTable Q w (nat_lit 28) ann0 (nat_lit 1) (nat_lit 9564) (S1 w.params os).abs ps9 = some (.next, (S2 w.params os).abs, cd0, ⟨54, 0, 54, 11⟩))
    (fun w os => step_go (a9f w os) (run9f _ os)) (fun w os => step_go (a9t w os) (run9t _ os))
theorem run17 (w : World) (os : OsState) : segRun treeTable Q w (nat_lit 28) ann0 (nat_lit 1) (nat_lit 3077) (S3 w.params os).abs ps17 = some (.next, (S4 w.params os).abs, cd0, ⟨62, 9, 62, 74⟩) :=
  step_go (a17 w os) (run17x w os)
theorem run19 (w : World) (os : OsState) : segRun treeTable Q w (nat_lit 28) ann0 (nat_lit 1) (nat_lit 4303) (S5 w.params os).abs ps19 = some (.next, (S6 w.params os).abs, cd0, ⟨65, 9, 65, 110⟩) :=
  step_go (a19 w os) (run19x w os)
theorem bq_eq : bq = ([qs 0, qs 1, qs 2, qs 3, qs 4, qs 5, qs 6, qs 7, qs 8] ++ ([qs 9] ++ ([qs 10, qs 11, qs 12, qs 13, qs 14, qs 15, qs 16] ++ ([qs 17] ++ ([qs 18] ++ ([qs 19] ++ ([qs 20, qs 21, qs 22, qs 23, qs 24, qs 25, qs 26, qs 27, qs 28, qs 29, qs 30] ++ ([qs 31, qs 32] ++ [])))))))) := by kernel_rfl
theorem fin_of (w : World) (os : OsState) : topRun treeTable Q w (nat_lit 28) ann0 (nat_lit 2) (S8 w.params os).abs ⟨doneF .next, cd0, ⟨120, 0, 175, 21⟩, [topFrame q0]⟩ = some (W8 w.params os) := by
  rw [PySem.W.Fast.te14082659384304107361, PySem.W.Fast.te14364793385576792824]
  exact gfin w os
theorem pre_of (w : World) (os : OsState) : topGo treeTable Q w (nat_lit 28) ann0 (nat_lit 12) (W0 w.params os) (topStub Q) = some (Wa w.params os, ⟨denote treeTable (.body bq env0), cd0, q0, [topFrame q0]⟩) := by
  rw [PySem.W.Fast.te15667345088766844465, PySem.W.Fast.te14364793385576792824, PySem.W.Fast.te11892475500146522536]
  exact gpre w os
theorem app_of {w : World} {n N : Nat} {s s' r : Shared} {l rest : List Stmt} {pos p' : Pos} (h : segRun treeTable Q w (nat_lit 28) ann0 (nat_lit 1) n s (pieceT l pos) = some (.next, s', cd0, p'))
    (k : topRun treeTable Q w (nat_lit 28) ann0 N s' (restOf rest env0 cd0 p' [topFrame q0]) = some r) : topRun treeTable Q w (nat_lit 28) ann0 (n + N) s (restOf (l ++ rest) env0 cd0 pos [topFrame q0]) = some r :=
  piece_app (by rw [pieceT_eq]; exact h) k
theorem run_rest (w : World) (os : OsState) : topRun treeTable Q w (nat_lit 28) ann0 ((nat_lit 310) + ((nat_lit 9564) + ((nat_lit 109) + ((nat_lit 3077) + ((nat_lit 25) + ((nat_lit 4303) + ((nat_lit 375) + ((nat_lit 53) + (nat_lit 2))))))))) (Sb w.params os).abs (restOf ([qs 0, qs 1, qs 2, qs 3, qs 4, qs 5, qs 6, qs 7, qs 8] ++ ([qs 9] ++ ([qs 10, qs 11, qs 12, qs 13, qs 14, qs 15, qs 16] ++ ([qs 17] ++ ([qs 18] ++ ([qs 19] ++ ([qs 20, qs 21, qs 22, qs 23, qs 24, qs 25, qs 26, qs 27, qs 28, qs 29, qs 30] ++ ([qs 31, qs 32] ++ [])))))))) env0 cd0 q0 [topFrame q0]) = some (W8 w.params os) :=
  app_of (run_of (ga w os)) (app_of (run9 w os) (app_of (run_of (g2 w os)) (app_of (run17 w os) (app_of (run_of (g4 w os)) (app_of (run19 w os) (app_of (run_of (g6 w os)) (app_of (run_of (g7 w os)) (piece_nil (fin_of w os)))))))))
theorem run_all (w : World) (os : OsState) : topRun treeTable Q w (nat_lit 28) ann0 ((nat_lit 12) + ((nat_lit 1) + ((nat_lit 310) + ((nat_lit 9564) + ((nat_lit 109) + ((nat_lit 3077) + ((nat_lit 25) + ((nat_lit 4303) + ((nat_lit 375) + ((nat_lit 53) + (nat_lit 2))))))))))) (W0 w.params os) (topStub Q) = some (W8 w.params os) :=
  go_top (pre_of w os) (piece_block (b := bq) (gblock w os) (by
    have e : restOf bq env0 cd0 q0 [topFrame q0] = restOf ([qs 0, qs 1, qs 2, qs 3, qs 4, qs 5, qs 6, qs 7, qs 8] ++ ([qs 9] ++ ([qs 10, qs 11, qs 12, qs 13, qs 14, qs 15, qs 16] ++ ([qs 17] ++ ([qs 18] ++ ([qs 19] ++ ([qs 20, qs 21, qs 22, qs 23, qs 24, qs 25, qs 26, qs 27, qs 28, qs 29, qs 30] ++ ([qs 31, qs 32] ++ [])))))))) env0 cd0 q0 [topFrame q0] := congrArg (fun b => restOf b env0 cd0 q0 [topFrame q0]) bq_eq
    rw [e]
    exact run_rest w os))
theorem open_of (w : World) : (fencedOpening treeTable Q w (nat_lit 35718)).map (fun s => (s.heap, s.gens, s.drawn, s.toks)) = some (H0 w.params, .mk [], drawn0, nat_lit 276) := by
  refine open_cut (M := nat_lit 800) (He := fun P => absHeap (Te P) (nat_lit 28) life0) (H₀ := H0) (ge := .mk []) (de := drawn0) (ke := nat_lit 276) ?_ (by decide) ?_ w
  · intro w
    rw [PySem.W.Fast.te10274390034422433532, PySem.W.Fast.te14364793385576792824, PySem.W.Fast.te1435165496053646825]
    exact gopen w
  · intro w
    funext os
    rw [PySem.W.Fast.te14289696077712309145]
    exact gfence w os
theorem left_raw : LeftO Q (qvOf Q) (looseOf F) (XtOf Q F) (fun s => addrs.map s.heap.get?) (fun w => (KG F Q w.params).map fun p => some p.2) (nat_lit 35718) :=
  LeftO.of_pieces (H₀ := H0) (H₁ := H8) (gs₀ := .mk []) (gs₁ := .mk []) (d₀ := drawn0) (d₁ := drawn0) (k₀ := nat_lit 276) (k₁ := nat_lit 2006) (m₀ := nat_lit 28) (ann := ann0) (M := ((nat_lit 12) + ((nat_lit 1) + ((nat_lit 310) + ((nat_lit 9564) + ((nat_lit 109) + ((nat_lit 3077) + ((nat_lit 25) + ((nat_lit 4303) + ((nat_lit 375) + ((nat_lit 53) + (nat_lit 2))))))))))))
    open_of size run_all (by decide) (fun w => funext fun os => pair_eq (look1 w os) (pair_eq (look2 w os) (look3 w os)))
theorem left_conv {p : Program} {f : String → Str} (hp : PySem.Challenge.pw_ny0134_01 = p) (hf : Str.ofString = f) {α : Type} {A : Shared → α} {B : World → α} {N : Nat} (h : LeftO p (qvOf p) (looseOf f) (XtOf p f) A B N) :
    LeftO PySem.Challenge.pw_ny0134_01 (qvOf PySem.Challenge.pw_ny0134_01) (looseOf Str.ofString) (XtOf PySem.Challenge.pw_ny0134_01 Str.ofString) A B N := by
  subst hp
  subst hf
  exact h
noncomputable def KH : Hook := kHook hd.heap_39 addrs addrs_eq
theorem val_eq : Hook.val KH = fun w => (KG F Q w.params).map fun p => some p.2 := by
  show (fun w : World => (hd.heap_39 w.params).map fun p => some p.2) = _
  rw [heap_eq, F_eq, pwQ]
theorem left : LeftO PySem.Challenge.pw_ny0134_01 (qvOf PySem.Challenge.pw_ny0134_01) (looseOf Str.ofString) (XtOf PySem.Challenge.pw_ny0134_01 Str.ofString) (Hook.obs KH) (Hook.val KH) (nat_lit 35718) := by
  rw [val_eq]
  exact left_conv pwQ F_eq left_raw
end H
end Mine
set_option maxHeartbeats 4000000
namespace Mine
section
variable {α : Type} (lt : α → α → Bool) (d : α)

noncomputable def sdL (sp : Nat) (x : α) : Nat → List α → Nat → List α
  | 0, vs, p => vs.set p x
  | k + 1, vs, p => if sp < p then (if lt x (vs.getD ((p - 1) / 2) d) then sdL sp x k (vs.set p (vs.getD ((p - 1) / 2) d)) ((p - 1) / 2) else vs.set p x) else vs.set p x
def kidL (vs : List α) (n p : Nat) : Nat := if 2 * p + 2 < n ∧ lt (vs.getD (2 * p + 1) d) (vs.getD (2 * p + 2) d) = false then 2 * p + 2 else 2 * p + 1
noncomputable def suL (n : Nat) : Nat → List α → Nat → List α × Nat
  | 0, vs, p => (vs, p)
  | k + 1, vs, p => if 2 * p + 1 < n then suL n k (vs.set p (vs.getD (kidL lt d vs n p) d)) (kidL lt d vs n p) else (vs, p)
theorem suL_succ (n k : Nat) (vs : List α) (p : Nat) : suL lt d n (k + 1) vs p = if 2 * p + 1 < n then suL lt d n k (vs.set p (vs.getD (kidL lt d vs n p) d)) (kidL lt d vs n p) else (vs, p) := rfl
noncomputable def siftdown (vs : List α) (sp p : Nat) : List α := sdL lt d sp (vs.getD p d) p vs p
noncomputable def siftup (vs : List α) (p : Nat) : List α :=
  siftdown lt d ((suL lt d vs.length vs.length vs p).1.set (suL lt d vs.length vs.length vs p).2 (vs.getD p d)) p (suL lt d vs.length vs.length vs p).2

theorem set_perm_cons {l : List α} {j : Nat} (hj : j < l.length) (c : α) : (l.set j c).Perm (c :: l.eraseIdx j) := by
  have := List.set_eq_take_append_cons_drop (l := l) (i := j) (a := c)
  rw [if_pos hj] at this
  rw [this, List.eraseIdx_eq_take_drop_succ]
  exact List.perm_middle
theorem set_set_perm : ∀ (l : List α) (i j : Nat) (a b : α), i ≠ j → i < l.length → j < l.length → ((l.set i a).set j b).Perm ((l.set i b).set j a)
  | [], _, _, _, _, _, h, _ => absurd h (Nat.not_lt_zero _)
  | x :: l, 0, 0, a, b, h, _, _ => absurd rfl h
  | x :: l, 0, j + 1, a, b, h, _, hj => by
    simp only [List.set_cons_zero, List.set_cons_succ]
    have hj : j < l.length := by simpa using hj
    exact ((set_perm_cons hj b).cons a).trans ((List.Perm.swap b a _).trans ((set_perm_cons hj a).cons b).symm)
  | x :: l, i + 1, 0, a, b, h, hi, _ => by
    simp only [List.set_cons_zero, List.set_cons_succ]
    have hi : i < l.length := by simpa using hi
    exact ((set_perm_cons hi a).cons b).trans ((List.Perm.swap a b _).trans ((set_perm_cons hi b).cons a).symm)
  | x :: l, i + 1, j + 1, a, b, h, hi, hj => by
    simp only [List.set_cons_succ]
    exact (set_set_perm l i j a b (by omega) (by simpa using hi) (by simpa using hj)).cons x

theorem getD_set {l : List α} {i j : Nat} {a : α} (hi : i < l.length) : (l.set i a).getD j d = if i = j then a else l.getD j d := by
  simp only [List.getD_eq_getElem?_getD, List.getElem?_set]
  split
  · simp [hi]
  · rfl
theorem set_getD {l : List α} {i : Nat} : l.set i (l.getD i d) = l := by
  apply List.ext_getElem? 
  intro j
  rw [List.getElem?_set]
  split
  · rename_i h
    subst h
    by_cases hi : i < l.length
    · simp only [List.getD_eq_getElem?_getD]
      simp [hi]
    · rw [if_neg hi]; simp at hi ⊢; omega
  · rfl


structure Ord (lt : α → α → Bool) : Prop where
  asym : ∀ a b, lt a b = true → lt b a = false
  tr : ∀ a b c, lt a b = false → lt b c = false → lt a c = false

theorem sdL_perm (sp : Nat) (x : α) : ∀ (k : Nat) (vs : List α) (p : Nat), p < vs.length → (sdL lt d sp x k vs p).Perm (vs.set p x)
  | 0, vs, p, _ => List.Perm.refl _
  | k + 1, vs, p, hp => by
    unfold sdL
    split
    · split
      · refine (sdL_perm sp x k _ _ (by rw [List.length_set]; omega)).trans ?_
        have h := set_set_perm vs p ((p - 1) / 2) (vs.getD ((p - 1) / 2) d) x (by omega) hp (by omega)
        refine h.trans ?_
        have e : ((vs.set p x).set ((p - 1) / 2) (vs.getD ((p - 1) / 2) d)) = vs.set p x := by
          have : vs.getD ((p - 1) / 2) d = (vs.set p x).getD ((p - 1) / 2) d := by rw [getD_set d hp, if_neg (by omega)]
          rw [this, set_getD]
        rw [e]
      · exact List.Perm.refl _
    · exact List.Perm.refl _
theorem kidL_lt {vs : List α} {n p : Nat} (h : 2 * p + 1 < n) : kidL lt d vs n p < n := by
  unfold kidL; split <;> omega
theorem kidL_gt {vs : List α} {n p : Nat} : p < kidL lt d vs n p := by
  unfold kidL; split <;> omega
theorem kidL_par {vs : List α} {n p : Nat} : (kidL lt d vs n p - 1) / 2 = p := by
  unfold kidL; split <;> omega
theorem suL_perm (x : α) : ∀ (k : Nat) (vs : List α) (p : Nat), p < vs.length →
    (suL lt d vs.length k vs p).1.length = vs.length ∧ (suL lt d vs.length k vs p).2 < vs.length ∧ ((suL lt d vs.length k vs p).1.set (suL lt d vs.length k vs p).2 x).Perm (vs.set p x)
  | 0, vs, p, hp => ⟨rfl, hp, List.Perm.refl _⟩
  | k + 1, vs, p, hp => by
    unfold suL
    split
    · rename_i h
      have hc := kidL_lt (lt := lt) d (vs := vs) h
      have hg := kidL_gt (lt := lt) d (vs := vs) (n := vs.length) (p := p)
      have ih := suL_perm x k (vs.set p (vs.getD (kidL lt d vs vs.length p) d)) (kidL lt d vs vs.length p) (by rw [List.length_set]; exact hc)
      rw [List.length_set] at ih
      refine ⟨ih.1, ih.2.1, ih.2.2.trans ?_⟩
      refine (set_set_perm vs p _ _ x (by omega) hp hc).trans ?_
      have e : ((vs.set p x).set (kidL lt d vs vs.length p) (vs.getD (kidL lt d vs vs.length p) d)) = vs.set p x := by
        have : vs.getD (kidL lt d vs vs.length p) d = (vs.set p x).getD (kidL lt d vs vs.length p) d := by rw [getD_set d hp, if_neg (by omega)]
        rw [this, set_getD]
      rw [e]
    · exact ⟨rfl, hp, List.Perm.refl _⟩
theorem siftdown_perm {vs : List α} {sp p : Nat} (hp : p < vs.length) : (siftdown lt d vs sp p).Perm vs := by
  unfold siftdown
  refine (sdL_perm lt d sp _ _ vs p hp).trans ?_
  rw [set_getD]
theorem siftup_perm {vs : List α} {p : Nat} (hp : p < vs.length) : (siftup lt d vs p).Perm vs := by
  unfold siftup
  obtain ⟨h1, h2, h3⟩ := suL_perm lt d (vs.getD p d) vs.length vs p hp
  refine (siftdown_perm lt d (by rw [List.length_set, h1]; exact h2)).trans (h3.trans ?_)
  rw [set_getD]

inductive Desc (i : Nat) : Nat → Prop
  | refl : Desc i i
  | step {p : Nat} : Desc i ((p - 1) / 2) → i < p → Desc i p
theorem Desc.le {i p : Nat} (h : Desc i p) : i ≤ p := by
  cases h with
  | refl => exact Nat.le_refl _
  | step _ h => omega
theorem Desc.up {i p : Nat} (h : Desc i p) (hp : i < p) : Desc i ((p - 1) / 2) := by
  cases h with
  | refl => omega
  | step h _ => exact h

def HeapFrom (i : Nat) (vs : List α) : Prop := ∀ k, 1 ≤ k → k < vs.length → i ≤ (k - 1) / 2 → lt (vs.getD k d) (vs.getD ((k - 1) / 2) d) = false

theorem sdL_ok (O : Ord lt) (i : Nat) (x : α) : ∀ (f : Nat) (vs : List α) (p : Nat), p ≤ f → p < vs.length → Desc i p →
    (∀ k, 1 ≤ k → k < vs.length → i ≤ (k - 1) / 2 → k ≠ p → (k - 1) / 2 ≠ p → lt (vs.getD k d) (vs.getD ((k - 1) / 2) d) = false) →
    (∀ k, 1 ≤ k → k < vs.length → (k - 1) / 2 = p → lt (vs.getD k d) x = false) →
    (∀ k, 1 ≤ k → k < vs.length → (k - 1) / 2 = p → i < p → lt (vs.getD k d) (vs.getD ((p - 1) / 2) d) = false) →
    HeapFrom lt d i (sdL lt d i x f vs p) := by
  intro f
  induction f with
  | zero =>
    intro vs p hf hp D R C GP
    have : p = 0 := by omega
    subst this
    have hi := D.le
    unfold sdL
    intro k h1 h2 h3
    rw [List.length_set] at h2
    rw [getD_set d hp, getD_set d hp, if_neg (by omega)]
    split
    · exact C k h1 h2 (by omega)
    · exact R k h1 h2 h3 (by omega) (by omega)
  | succ f ih =>
    intro vs p hf hp D R C GP
    have fin : (i < p → lt x (vs.getD ((p - 1) / 2) d) = false) → HeapFrom lt d i (vs.set p x) := by
      intro hx k h1 h2 h3
      rw [List.length_set] at h2
      rw [getD_set d hp, getD_set d hp]
      have hi := D.le
      split
      · rename_i e
        subst e
        rw [if_neg (by omega)]
        exact hx (by omega)
      · split
        · rename_i e
          exact C k h1 h2 e.symm
        · exact R k h1 h2 h3 (by omega) (by omega)
    unfold sdL
    split
    · rename_i hip
      split
      · rename_i hx
        have D' := D.up hip
        have hi' := D'.le
        have hpp : (p - 1) / 2 < vs.length := by omega
        have hyx := O.asym _ _ hx
        refine ih (vs.set p (vs.getD ((p - 1) / 2) d)) ((p - 1) / 2) (by omega) (by rw [List.length_set]; omega) D' ?_ ?_ ?_
        · intro k h1 h2 h3 h4 h5
          rw [List.length_set] at h2
          rw [getD_set d hp, getD_set d hp]
          split
          · omega
          · split
            · rename_i e
              exact GP k h1 h2 e.symm hip
            · exact R k h1 h2 h3 (by omega) (by omega)
        · intro k h1 h2 h3
          rw [List.length_set] at h2
          rw [getD_set d hp]
          split
          · exact hyx
          · have := R k h1 h2 (by omega) (by omega) (by omega)
            rw [h3] at this
            exact O.tr _ _ _ this hyx
        · intro k h1 h2 h3 h4
          rw [List.length_set] at h2
          rw [getD_set d hp, getD_set d hp, if_neg (c := p = ((p - 1) / 2 - 1) / 2) (by omega)]
          have up := R ((p - 1) / 2) (by omega) hpp (D'.up h4).le (by omega) (by omega)
          split
          · exact up
          · have := R k h1 h2 (by omega) (by omega) (by omega)
            rw [h3] at this
            exact O.tr _ _ _ this up
      · rename_i hx
        exact fin fun _ => by simpa using hx
    · exact fin fun h => absurd h (by assumption)

theorem kidL_sib (O : Ord lt) {vs : List α} {n p k : Nat} (hk : k < n) (h1 : 1 ≤ k) (hp : (k - 1) / 2 = p) (hn : k ≠ kidL lt d vs n p) : lt (vs.getD k d) (vs.getD (kidL lt d vs n p) d) = false := by
  unfold kidL at hn ⊢
  split
  · rename_i h
    rw [if_pos h] at hn
    have : k = 2 * p + 1 := by omega
    rw [this]; exact h.2
  · rename_i h
    rw [if_neg h] at hn
    have : k = 2 * p + 2 := by omega
    subst this
    refine O.asym _ _ ?_
    cases hh : lt (vs.getD (2 * p + 1) d) (vs.getD (2 * p + 2) d) with
    | true => rfl
    | false => exact absurd ⟨hk, hh⟩ h

theorem suL_ok (O : Ord lt) (i : Nat) : ∀ (f : Nat) (vs : List α) (p : Nat), vs.length ≤ f + p → p < vs.length → Desc i p →
    (∀ k, 1 ≤ k → k < vs.length → i ≤ (k - 1) / 2 → k ≠ p → (k - 1) / 2 ≠ p → lt (vs.getD k d) (vs.getD ((k - 1) / 2) d) = false) →
    (∀ k, 1 ≤ k → k < vs.length → (k - 1) / 2 = p → i < p → lt (vs.getD k d) (vs.getD ((p - 1) / 2) d) = false) →
    ∀ vs' p', suL lt d vs.length f vs p = (vs', p') → vs'.length = vs.length ∧ p' < vs.length ∧ Desc i p' ∧ vs.length ≤ 2 * p' + 1 ∧
      (∀ k, 1 ≤ k → k < vs.length → i ≤ (k - 1) / 2 → k ≠ p' → (k - 1) / 2 ≠ p' → lt (vs'.getD k d) (vs'.getD ((k - 1) / 2) d) = false) := by
  intro f
  induction f with
  | zero => intro vs p hf hp; omega
  | succ f ih =>
    intro vs p hf hp D R GP vs' p' e
    unfold suL at e
    split at e
    · rename_i h
      have hc := kidL_lt (lt := lt) d (vs := vs) h
      have hg := kidL_gt (lt := lt) d (vs := vs) (n := vs.length) (p := p)
      have hpar := kidL_par (lt := lt) d (vs := vs) (n := vs.length) (p := p)
      generalize hcc : kidL lt d vs vs.length p = c at *
      have hle := D.le
      have l : (vs.set p (vs.getD c d)).length = vs.length := List.length_set ..
      have := ih (vs.set p (vs.getD c d)) c (by rw [l]; omega) (by rw [l]; exact hc) (.step (by rw [hpar]; exact D) (by omega)) ?_ ?_ vs' p' (by rw [l]; exact e)
      · rw [l] at this; exact this
      · intro k h1 h2 h3 h4 h5
        rw [l] at h2
        rw [getD_set d hp, getD_set d hp]
        split
        · rename_i ek
          subst ek
          rw [if_neg (by omega)]
          exact GP c (by omega) hc hpar (by omega)
        · split
          · rename_i ek
            have := kidL_sib lt d O (vs := vs) (p := p) h2 h1 ek.symm (by rw [hcc]; exact h4)
            rw [hcc] at this; exact this
          · exact R k h1 h2 h3 (by omega) (by omega)
      · intro k h1 h2 h3 h4
        rw [l] at h2
        rw [getD_set d hp, getD_set d hp, if_neg (by omega), hpar, if_pos rfl]
        have := R k h1 h2 (by omega) (by omega) (by omega)
        rw [h3] at this
        exact this
    · rename_i h
      cases e
      exact ⟨rfl, hp, D, by omega, R⟩

theorem siftup_ok (O : Ord lt) {vs : List α} {i : Nat} (hi : i < vs.length) (H : HeapFrom lt d (i + 1) vs) : HeapFrom lt d i (siftup lt d vs i) := by
  unfold siftup
  generalize e : suL lt d vs.length vs.length vs i = r
  obtain ⟨vs', p'⟩ := r
  obtain ⟨h1, h2, h3, h4, h5⟩ := suL_ok lt d O i vs.length vs i (by omega) hi .refl (fun k a b c _ f => H k a b (by omega)) (fun k a b c f => by omega) vs' p' e
  unfold siftdown
  have l : (vs'.set p' (vs.getD i d)).length = vs.length := by rw [List.length_set]; exact h1
  refine sdL_ok lt d O i _ p' _ p' (Nat.le_refl _) (by rw [l]; exact h2) h3 ?_ ?_ ?_
  · intro k a b c f g
    rw [l] at b
    have hp' : p' < vs'.length := by rw [h1]; exact h2
    rw [getD_set d hp', getD_set d hp', if_neg (by omega), if_neg (by omega)]
    exact h5 k a b c f g
  · intro k a b c; rw [l] at b; omega
  · intro k a b c; rw [l] at b; omega

theorem desc0 : ∀ p, Desc 0 p := fun p => by
  induction p using Nat.strongRecOn with
  | ind p ih =>
    cases p with
    | zero => exact .refl
    | succ p => exact .step (ih _ (by omega)) (by omega)
theorem push_ok (O : Ord lt) {vs : List α} {x : α} (H : HeapFrom lt d 0 vs) : HeapFrom lt d 0 (siftdown lt d (vs ++ [x]) 0 vs.length) := by
  unfold siftdown
  have l : (vs ++ [x]).length = vs.length + 1 := by simp
  refine sdL_ok lt d O 0 _ vs.length _ vs.length (Nat.le_refl _) (by omega) (desc0 _) ?_ ?_ ?_
  · intro k a b c f g
    have e : ∀ j, j < vs.length → (vs ++ [x]).getD j d = vs.getD j d := fun j hj => by
      simp [List.getD_eq_getElem?_getD, List.getElem?_append_left hj]
    rw [e k (by omega), e _ (by omega)]
    exact H k a (by omega) c
  · intro k a b c; omega
  · intro k a b c; omega
theorem root_least (O : Ord lt) {vs : List α} (H : HeapFrom lt d 0 vs) (irr : ∀ a, lt a a = false) : ∀ k, k < vs.length → lt (vs.getD k d) (vs.getD 0 d) = false := by
  intro k
  induction k using Nat.strongRecOn with
  | ind k ih =>
    intro hk
    by_cases h0 : k = 0
    · subst h0; exact irr _
    · exact O.tr _ _ _ (H k (by omega) hk (Nat.zero_le _)) (ih ((k - 1) / 2) (by omega) (by omega))
end
end Mine

namespace Mine
theorem filledK : ∃ (l : OpenLaw) (K : Params → Frag), l = PySem.Challenge.rw_ny0134_01 ∧ K = hd.heap_39 := by
  k_fill
  exact ⟨_, _, rfl, rfl⟩
structure Cx (w : World) (p : Program) (loose : List Str) (mean : ExcName → Option Value) (mg mb : Str → Option Value) (A₀ : Around) (base : Heap) (outer : List Env) (h₀ : Heap) (L : Addr) (m : Str → Option Value) (news : List (Addr × Obj)) (h : Heap) : Prop where
  B : Below A₀ base outer h₀
  F : Fr h₀ L h m
  X : (Mine.hd.heap_39 w.params).In h₀
  N : News h₀ L h news
  T : Top p loose mean mg mb h₀
abbrev sv (x : Str × Tok) : Value := .str x.1 x.2
abbrev slist (xs : List (Str × Tok)) (n : Nat) : Obj := listOf (xs.map sv).toArray n
abbrev wlt (a b : Str × Tok) : Bool := decide (a.1.cps.toList < b.1.cps.toList)

section
variable {prog : Program} {w : World} {A : Around} {E : Value → Shared → Prop} {s : Shared} {env : Env} {h₀ : Heap} {L : Addr} {m : Str → Option Value} {news news' : List (Addr × Obj)}

theorem lk_hit {m : Str → Option Value} {x : Str} {v : Value} : (fun y => if y = x then some v else m y) x = some v := if_pos rfl
theorem lk_miss {m : Str → Option Value} {x z : Str} {v : Value} {o : Option Value} (h : z ≠ x) (h' : m z = o) : (fun y => if y = x then some v else m y) z = o := (if_neg h).trans h'

theorem fr_name {g h : Heap} {L : Addr} {m : Str → Option Value} (F : Fr g L h m) : ∃ m1, m1 = m ∧ Fr g L h m1 := ⟨m, rfl, F⟩
theorem whl_ind {test : Expr} {body orelse : List Stmt} {Q : Flow → Shared → Prop} (I : Nat → Shared → Prop) (hE : PassesOwn (model prog w) A env E)
    (zero : ∀ s, I 0 s → False)
    (turn : ∀ k s, I (k + 1) s → wpAny (model prog w) A (isTrue test env (eval test env)) (fun b s₂ => WhlIf b (wpAny (model prog w) A (execs body env) (fun f s' => match f with | .next => I k s' | .cont => I k s' | .brk => Q .next s' | .ret v => Q (.ret v) s') E s₂) (wpAny (model prog w) A (execs orelse env) Q E s₂)) E s) :
    ∀ k s, I k s → WhlRest prog w A E env test body orelse Q k s := by
  intro k
  induction k with
  | zero => intro s h; exact (zero s h).elim
  | succ k ih =>
    intro s h
    refine whl_turn hE (wpAny_mono (turn k s h) (fun b s₂ hb => ?_) fun _ _ x => x)
    cases b with
    | false => exact hb
    | true =>
      refine wpAny_mono hb (fun f s₃ hf => ?_) fun _ _ x => x
      cases f with
      | next => exact ih _ hf
      | cont => exact ih _ hf
      | brk => exact hf
      | ret v => exact hf

theorem it_get {value slice : Expr} {hp : Addr} {xs : List (Str × Tok)} {n i : Nat} {k : Int} {u : Tok} {Q : Value → Shared → Prop} (N : News h₀ L s.heap news) (hm : (hp, slist xs n) ∈ news) (hk : k = (i : Int)) (hi : i < xs.length) (hfit : xs.length < 2 ^ 62)
    (h : Q (sv (xs.getD i (Str.empty, 0))) s)
    (hs : subscripted slice false (.ref hp) (.int k u) = operate [.ref hp, .int k u] (getItem (.ref hp) (.int k u)) := by with_unfolding_all rfl) (hg : ∀ r, letTemporaryGo value (.ref hp) r = pure () := by intro _; with_unfolding_all rfl) :
    wpAny (model prog w) A (subscriptTail value slice (.ref hp) (.int k u)) Q E s := by
  subst hk
  refine kim_list (l := xs.map sv) N hm rfl rfl (by omega) (by omega) ?_ h hs hg
  simp [hi]

theorem it_set {hp : Addr} {xs : List (Str × Tok)} {n i : Nat} {k : Int} {u : Tok} {x : Str × Tok} {rest : List (Addr × Obj)} {Q : Unit → Shared → Prop} (F : Fr h₀ L s.heap m) (N : News h₀ L s.heap ((hp, slist xs n) :: rest)) (hne : ∀ q ∈ rest, q.1 ≠ hp) (hk : k = (i : Int)) (hi : i < xs.length) (hfit : xs.length < 2 ^ 62)
    (h : ∀ h', Fr h₀ L h' m → News h₀ L h' ((hp, slist (xs.set i x) n) :: rest) → Q () { s with heap := h' }) :
    wpAny (model prog w) A (setItem (.ref hp) (.int k u) (sv x)) Q E s := by
  subst hk
  have z := N (hp, slist xs n) (.head _)
  refine ki_setAt z.1 (by omega) (by omega) (by simpa using hi) (h _ (F.change (Heap.SameBut.update ..) z.2.1 z.2.2) ?_)
  refine ki_turn (pre := []) _ N (fun _ h => nomatch h) hne ?_ ?_
  · apply Array.toList_inj.mp
    simp
  · simp
def WTurn (I X : Shared → Prop) (Q : Flow → Shared → Prop) (f : Flow) (s : Shared) : Prop := match f with | .next => I s | .cont => I s | .brk => X s | .ret v => Q (.ret v) s
theorem whl_inv {test : Expr} {body : List Stmt} {pos : Pos} {Q : Flow → Shared → Prop} (I : Nat → Shared → Prop) (X : Shared → Prop) (hE : PassesOwn (model prog w) A env E) (k : Nat) (start : I k s) (hX : ∀ s, X s → Q .next s)
    (zero : ∀ s, I 0 s → False)
    (turn : ∀ k s, I (k + 1) s → wpAny (model prog w) A (isTrue test env (eval test env)) (fun b s₂ => WhlIf b (wpAny (model prog w) A (execs body env) (WTurn (I k) X Q) E s₂) (X s₂)) E s) :
    wpAny (model prog w) A (exec (.While test body [] pos) env) Q E s := by
  refine whl_start k (whl_ind I hE zero (fun k s h => ?_) k s start)
  refine wpAny_mono (turn k s h) (fun b s₂ hb => ?_) fun _ _ x => x
  cases b with
  | false => exact wpAny_execs_nil (hX _ hb)
  | true =>
    refine wpAny_mono hb (fun f s₃ hf => ?_) fun _ _ x => x
    cases f with
    | next => exact hf
    | cont => exact hf
    | brk => exact hX _ hf
    | ret v => exact hf
theorem it_isList {hp : Addr} {its : Array Value} {n : Nat} (N : News h₀ L s.heap news) (hm : (hp, listOf its n) ∈ news) : s.heap.IsList hp its := ⟨_, (N _ hm).1, rfl, n, rfl⟩
theorem it_len {hp : Addr} {xs : List (Str × Tok)} {n : Nat} {Q : Value → Shared → Prop} (N : News h₀ L s.heap news) (hm : (hp, slist xs n) ∈ news) (hfit : xs.length < 2 ^ 62)
    (h : Q (.int (xs.length : Int) (s.toks + 1)) { s with toks := s.toks + 1 + 1 }) : wpAny (model prog w) A (call (.builtin "len") [.ref hp]) Q E s := by
  refine len_list (it_isList N hm) (by simp; omega) ?_
  simpa using h
theorem it_truthy {hp : Addr} {xs : List (Str × Tok)} {n : Nat} {Q : Bool → Shared → Prop} (N : News h₀ L s.heap news) (hm : (hp, slist xs n) ∈ news) (hfit : xs.length < 2 ^ 62)
    (h : Q (decide (0 < xs.length)) { s with toks := s.toks + 1 + 1 }) : wpAny (model prog w) A (truthy (.ref hp)) Q E s := by
  refine wpAny_truthy_list (it_isList N hm) (by simp; omega) ?_
  have e : (!(xs.map sv).toArray.isEmpty) = decide (0 < xs.length) := by cases xs <;> simp
  rw [e]; exact h
theorem it_append {hp : Addr} {xs : List (Str × Tok)} {n : Nat} {x : Str × Tok} {rest : List (Addr × Obj)} {Q : Value → Shared → Prop} (F : Fr h₀ L s.heap m) (N : News h₀ L s.heap ((hp, slist xs n) :: rest)) (hne : ∀ q ∈ rest, q.1 ≠ hp) (hfit : xs.length < 1000000)
    (h : ∀ h', Fr h₀ L h' m → News h₀ L h' ((hp, slist (xs ++ [x]) (n + 1)) :: rest) → Q .none { s with heap := h' }) :
    wpAny (model prog w) A (call (.builtin "list.append") [.ref hp, sv x]) Q E s := by
  refine append_K F N (Upd.head hne) (fun h' F' N' => h h' F' ?_) (by simp [sizeLine]; omega)
  have e : (xs.map sv).toArray.push (sv x) = ((xs ++ [x]).map sv).toArray := by simp
  rw [e] at N'; exact N'
theorem kl_last_app (p : List Value) (y : Value) : kl_last (p ++ [y]) = some (p, y) := by
  induction p with
  | nil => rfl
  | cons a p ih =>
    show (match kl_last (p ++ [y]) with | some (p, y) => some (a :: p, y) | none => some ([], a)) = _
    rw [ih]
theorem it_pop {hp : Addr} {xs : List (Str × Tok)} {n : Nat} {x : Str × Tok} {rest : List (Addr × Obj)} {Q : Value → Shared → Prop} (F : Fr h₀ L s.heap m) (N : News h₀ L s.heap ((hp, slist (xs ++ [x]) n) :: rest)) (hne : ∀ q ∈ rest, q.1 ≠ hp) (hfit : xs.length < 1000000)
    (h : ∀ h', Fr h₀ L h' m → News h₀ L h' ((hp, slist xs (n + 1)) :: rest) → Q (sv x) { s with heap := h' }) :
    wpAny (model prog w) A (call (.builtin "list.pop") [.ref hp]) Q E s := by
  refine kl_pop (p := xs.map sv) (y := sv x) F N ?_ (Upd.head hne) (by simp [sizeLine]; omega) h
  have e : ((xs ++ [x]).map sv).toArray.toList = xs.map sv ++ [sv x] := by simp
  rw [e]
  exact kl_last_app _ _
end
theorem news_tl {h₀ h : Heap} {L : Addr} {p : Addr × Obj} {news : List (Addr × Obj)} (N : News h₀ L h (p :: news)) : News h₀ L h news := fun q hq => N q (.tail _ hq)
theorem news_drop2 {h₀ h : Heap} {L : Addr} {p q : Addr × Obj} {news : List (Addr × Obj)} (N : News h₀ L h (p :: q :: news)) : News h₀ L h (p :: news) := fun r hr => N r (by
  rcases List.mem_cons.mp hr with rfl | hr
  · exact .head _
  · exact .tail _ (.tail _ hr))
theorem news_sub {h₀ h : Heap} {L : Addr} {news all : List (Addr × Obj)} (N : News h₀ L h all) (hs : ∀ p ∈ news, p ∈ all) : ∃ NW, (∀ p ∈ news, p ∈ NW) ∧ News h₀ L h NW := ⟨all, hs, N⟩
theorem news_of_sub {h₀ h : Heap} {L : Addr} {news all : List (Addr × Obj)} (N : News h₀ L h all) (hs : ∀ p ∈ news, p ∈ all) : News h₀ L h news := fun p hp => N p (hs p hp)
theorem news_front {hp : Addr} {o : Obj} {news : List (Addr × Obj)} {g : Obj → List (Addr × Obj)} (U : UpdF hp o news g) :
    ∃ rest, (∀ q ∈ rest, q.1 ≠ hp) ∧ (∀ (h₀ : Heap) (L : Addr) (h : Heap), News h₀ L h news → News h₀ L h ((hp, o) :: rest)) ∧ (∀ o' (h₀ : Heap) (L : Addr) (h : Heap), News h₀ L h ((hp, o') :: rest) → News h₀ L h (g o')) := by
  obtain ⟨pre, post, rfl, hg, a, b⟩ := U.split
  refine ⟨pre ++ post, fun q hq => (List.mem_append.mp hq).elim (a q) (b q), fun h₀ L h N p hp' => N p ?_, fun o' h₀ L h N p hp' => N p ?_⟩
  · rcases List.mem_cons.mp hp' with rfl | h1
    · exact List.mem_append_right _ (.head _)
    · rcases List.mem_append.mp h1 with h1 | h1
      · exact List.mem_append_left _ h1
      · exact List.mem_append_right _ (.tail _ h1)
  · rw [hg] at hp'
    rcases List.mem_append.mp hp' with h1 | h1
    · exact .tail _ (List.mem_append_left _ h1)
    · rcases List.mem_cons.mp h1 with rfl | h1
      · exact .head _
      · exact .tail _ (List.mem_append_right _ h1)
section
variable {prog : Program} {w : World} {A : Around} {E : Value → Shared → Prop} {s : Shared} {env : Env} {h₀ : Heap} {L : Addr} {m : Str → Option Value} {news news' : List (Addr × Obj)}
theorem it_setU {hp : Addr} {xs : List (Str × Tok)} {n i : Nat} {k : Int} {u : Tok} {x : Str × Tok} {g : Obj → List (Addr × Obj)} {Q : Unit → Shared → Prop} (F : Fr h₀ L s.heap m) (N : News h₀ L s.heap news) (U : UpdF hp (slist xs n) news g) (hk : k = (i : Int)) (hi : i < xs.length) (hfit : xs.length < 2 ^ 62)
    (h : ∀ h', Fr h₀ L h' m → News h₀ L h' (g (slist (xs.set i x) n)) → Q () { s with heap := h' }) :
    wpAny (model prog w) A (setItem (.ref hp) (.int k u) (sv x)) Q E s := by
  obtain ⟨rest, hne, nf, nb⟩ := news_front U
  exact it_set F (nf _ _ _ N) hne hk hi hfit fun h' F' N' => h h' F' (nb _ _ _ _ N')
theorem it_appendU {hp : Addr} {xs : List (Str × Tok)} {n : Nat} {x : Str × Tok} {g : Obj → List (Addr × Obj)} {Q : Value → Shared → Prop} (F : Fr h₀ L s.heap m) (N : News h₀ L s.heap news) (U : UpdF hp (slist xs n) news g) (hfit : xs.length < 1000000)
    (h : ∀ h', Fr h₀ L h' m → News h₀ L h' (g (slist (xs ++ [x]) (n + 1))) → Q .none { s with heap := h' }) :
    wpAny (model prog w) A (call (.builtin "list.append") [.ref hp, sv x]) Q E s := by
  obtain ⟨rest, hne, nf, nb⟩ := news_front U
  exact it_append F (nf _ _ _ N) hne hfit fun h' F' N' => h h' F' (nb _ _ _ _ N')
theorem it_popU {hp : Addr} {xs : List (Str × Tok)} {n : Nat} {x : Str × Tok} {g : Obj → List (Addr × Obj)} {Q : Value → Shared → Prop} (F : Fr h₀ L s.heap m) (N : News h₀ L s.heap news) (U : UpdF hp (slist (xs ++ [x]) n) news g) (hfit : xs.length < 1000000)
    (h : ∀ h', Fr h₀ L h' m → News h₀ L h' (g (slist xs (n + 1))) → Q (sv x) { s with heap := h' }) :
    wpAny (model prog w) A (call (.builtin "list.pop") [.ref hp]) Q E s := by
  obtain ⟨rest, hne, nf, nb⟩ := news_front U
  exact it_pop F (nf _ _ _ N) hne hfit fun h' F' N' => h h' F' (nb _ _ _ _ N')
end
section
variable {prog : Program} {w : World} {A : Around} {E : Value → Shared → Prop} {s : Shared} {env : Env} {h₀ : Heap} {L : Addr} {m : Str → Option Value} {news news' : List (Addr × Obj)}
theorem it_appendV {hp : Addr} {vs : List Value} {n : Nat} {x : Value} {g : Obj → List (Addr × Obj)} {Q : Value → Shared → Prop} (F : Fr h₀ L s.heap m) (N : News h₀ L s.heap news) (U : UpdF hp (listOf vs.toArray n) news g) (hfit : vs.length < 1000000)
    (h : ∀ h', Fr h₀ L h' m → News h₀ L h' (g (listOf (vs ++ [x]).toArray (n + 1))) → Q .none { s with heap := h' }) :
    wpAny (model prog w) A (call (.builtin "list.append") [.ref hp, x]) Q E s := by
  obtain ⟨rest, hne, nf, nb⟩ := news_front U
  refine append_K F (nf _ _ _ N) (Upd.head hne) (fun h' F' N' => h h' F' (nb _ _ _ _ ?_)) (by simp [sizeLine]; omega)
  have e : vs.toArray.push x = (vs ++ [x]).toArray := by simp
  rw [e] at N'; exact N'
theorem it_getI {value slice : Expr} {hp : Addr} {vs : List Value} {ns : List Int} {n i : Nat} {k : Int} {u : Tok} {Q : Value → Shared → Prop} (N : News h₀ L s.heap news) (hm : (hp, listOf vs.toArray n) ∈ news) (hI : IntsAre vs ns) (hk : k = (i : Int)) (hi : i < ns.length) (hfit : ns.length < 2 ^ 62)
    (h : ∀ t, Q (.int (ns.getD i 0) t) s)
    (hs : subscripted slice false (.ref hp) (.int k u) = operate [.ref hp, .int k u] (getItem (.ref hp) (.int k u)) := by with_unfolding_all rfl) :
    wpAny (model prog w) A (subscriptTail value slice (.ref hp) (.int k u)) Q E s := by
  subst hk
  exact ksa_sub N hm hI (by omega) (by omega) (by omega) (fun t => by simpa using h t) hs
theorem intsAre_snoc {x : Int} {t : Tok} : ∀ {vs : List Value} {ns : List Int}, IntsAre vs ns → IntsAre (vs ++ [.int x t]) (ns ++ [x])
  | _, _, .nil => .cons _ _ .nil
  | _, _, .cons n t h => .cons n t (intsAre_snoc h)
end
section
variable {prog : Program} {w : World} {A : Around} {E : Value → Shared → Prop} {s : Shared} {env : Env} {h₀ : Heap} {L : Addr} {m : Str → Option Value} {news news' : List (Addr × Obj)}
theorem it_eqI {D D' : Addr} {vs us : List Value} {ns ms : List Int} {n n' : Nat} {Q : Value → Shared → Prop} (N : News h₀ L s.heap news) (hm : (D, listOf vs.toArray n) ∈ news) (hI : IntsAre vs ns) (hm' : (D', listOf us.toArray n') ∈ news) (hI' : IntsAre us ms) (hu : A.units + 64 < cLine)
    (h : Q (.bool (decide (ns = ms))) s) : wpAny (model prog w) A (compareOp .Eq (.ref D) (.ref D')) Q E s := ke_eq_ints (it_isList N hm) (it_isList N hm') hI hI' hu h
theorem it_neI {D D' : Addr} {vs us : List Value} {ns ms : List Int} {n n' : Nat} {Q : Value → Shared → Prop} (N : News h₀ L s.heap news) (hm : (D, listOf vs.toArray n) ∈ news) (hI : IntsAre vs ns) (hm' : (D', listOf us.toArray n') ∈ news) (hI' : IntsAre us ms) (hu : A.units + 64 < cLine)
    (h : Q (.bool (!decide (ns = ms))) s) : wpAny (model prog w) A (compareOp .NotEq (.ref D) (.ref D')) Q E s := ke_ne_ints (it_isList N hm) (it_isList N hm') hI hI' hu h
end
theorem unr_mono {h₀ : Heap} {L : Addr} {s₁ : Shared} {I : Addr} {it : Obj} {r r' : (Str → Option Value) → List (Addr × Obj) → Prop} {Q : Flow → Shared → Prop} {f : Flow} {s₂ : Shared} (h : UnrPost h₀ L s₁ I it r Q f s₂) (hr : ∀ m n, (∀ p ∈ n, p.1 ≠ I) → r m n → r' m n) : UnrPost h₀ L s₁ I it r' Q f s₂ := by
  cases f with
  | ret v => exact h
  | brk => exact h
  | next => obtain ⟨h', tk, m', n', e, F, N, o, x⟩ := h; exact ⟨h', tk, m', n', e, F, N, o, hr _ _ o x⟩
  | cont => obtain ⟨h', tk, m', n', e, F, N, o, x⟩ := h; exact ⟨h', tk, m', n', e, F, N, o, hr _ _ o x⟩
section
variable {prog : Program} {w : World} {A : Around} {E : Value → Shared → Prop} {s : Shared} {env : Env} {h₀ : Heap} {x : Str} {body : List Stmt} {Q : Flow → Shared → Prop}
theorem for_list {ax : Addr} {vs : List Value} {n : Nat} {m₀ : Str → Option Value} {news : List (Addr × Obj)} (J : List Value → (Str → Option Value) → List (Addr × Obj) → Prop)
    (hh : A.handled = none) (F : Fr h₀ env.locals s.heap m₀) (N : News h₀ env.locals s.heap news) (hm : (ax, listOf vs.toArray n) ∈ news) (start : J vs m₀ news)
    (turn : ∀ v r m nw I it h tk, J (v :: r) m nw → it.cls = .type "list_iterator" → (∀ p ∈ nw, p.1 ≠ I) → Fr h₀ env.locals h (fun y => if y = x then some v else m y) → News h₀ env.locals h ((I, it) :: nw) →
      wpAny (model prog w) A (execs body env) (UnrPost h₀ env.locals { s with heap := h, toks := tk } I it (fun m' n' => (ax, listOf vs.toArray n) ∈ n' ∧ J r m' n') Q) E { s with heap := h, toks := tk })
    (fin : ∀ m nw h tk, J [] m nw → Fr h₀ env.locals h m → News h₀ env.locals h nw → Q .next { s with heap := h, toks := tk }) :
    wpAny (model prog w) A (pyIter (.ref ax)) (fun it s₂ => LoopAtV prog w A h₀ env x body Q E it s₂) E s := by
  refine iter_listUnr hh F N hm rfl rfl fun I hI => ?_
  have key : ∀ r m nw, J r m nw → (∀ p ∈ nw, p.1 ≠ I) → ListRest prog w A E h₀ env x body Q s I (ax, listOf vs.toArray n) r m nw := by
    intro r
    induction r with
    | nil => intro m nw hJ _; exact fun h tk F' N' => fin m nw h tk hJ F' N'
    | cons v r ih =>
      intro m nw hJ off
      refine ListRest.succ fun it h tk hc F' N' => ?_
      exact wpAny_mono (turn v r m nw I it h tk hJ hc off F' N') (fun f s₂ hp => unr_mono hp fun m' n' o hx => ⟨hx.1, ih m' n' hx.2 o⟩) fun _ _ e => e
  exact key vs m₀ news start fun p hp => Nat.ne_of_lt (hI p hp)
theorem unr_next {L : Addr} {s₁ : Shared} {I : Addr} {it : Obj} {rest : (Str → Option Value) → List (Addr × Obj) → Prop} {h' : Heap} {tk : Nat} {m' : Str → Option Value} (nw : List (Addr × Obj)) (F : Fr h₀ L h' m') (N : News h₀ L h' ((I, it) :: nw)) (off : ∀ p ∈ nw, p.1 ≠ I) (r : rest m' nw) :
    UnrPost h₀ L s₁ I it rest Q .next { s₁ with heap := h', toks := tk } := ⟨h', tk, m', nw, rfl, F, N, off, r⟩
end

theorem tr_slot : Slot "str" "translate" "str.translate" := F.slot_str_translate
theorem tr_type : typeOf (.builtin "str.translate") = pure (.type "method_descriptor") := F.type_str_translate
local macro_rules | `(tactic| walk_at "eval Name") => `(tactic| k_extra "mine eval Name")
local macro_rules | `(tactic| walk_at "subscriptTail Name Name ref int") => `(tactic| k_extra "mine subscriptTail Name Name ref int")
local macro_rules | `(tactic| walk_at "subscriptTail Name Constant ref int") => `(tactic| k_extra "mine subscriptTail Name Constant ref int")
local macro_rules | `(tactic| walk_at "setItem ref int str") => `(tactic| k_extra "mine setItem ref int str")
local macro_rules | `(tactic| walk_at "call builtin:len cons ref") => `(tactic| k_extra "mine call builtin:len cons ref")
local macro_rules | `(tactic| walk_at "call builtin:len") => `(tactic| k_extra "mine call builtin:len")
local macro_rules | `(tactic| walk_at "truthy ref") => `(tactic| k_extra "mine truthy ref")
local macro_rules | `(tactic| walk_at "call builtin:list.append") => `(tactic| k_extra "mine call builtin:list.append")
local macro_rules | `(tactic| walk_at "call builtin:list.pop") => `(tactic| k_extra "mine call builtin:list.pop")
local macro_rules | `(tactic| walk_at "compareOp Eq ref ref") => `(tactic| k_extra "mine compareOp Eq ref ref")
local macro_rules | `(tactic| walk_at "compareOp NotEq ref ref") => `(tactic| k_extra "mine compareOp NotEq ref ref")
local macro_rules | `(tactic| walk_at "binaryOp Add ref ref") => `(tactic| k_extra "mine binaryOp Add ref ref")
local macro_rules | `(tactic| walk_at "call ref") => `(tactic| k_extra "mine call ref")
local macro_rules | `(tactic| walk_at "truthy bytes") => `(tactic| k_extra "mine truthy bytes")
local macro_rules | `(tactic| walk_at "call builtin:bytes.decode") => `(tactic| k_extra "mine call builtin:bytes.decode")
local macro_rules | `(tactic| walk_at "getMethod str") => `(tactic| k_extra "mine getMethod str")
local macro_rules | `(tactic| walk_at "call builtin:str.translate") => `(tactic| k_extra "mine call builtin:str.translate")
local macro_rules | `(tactic| walk_at "getMethod ref") => `(tactic| k_extra "mine getMethod ref")
local macro_rules | `(tactic| walk_at "call builtin:re.Match.group") => `(tactic| k_extra "mine call builtin:re.Match.group")
local macro_rules | `(tactic| walk_at "call builtin:str.replace") => `(tactic| k_extra "mine call builtin:str.replace")
local macro_rules | `(tactic| walk_at "call builtin:re.Pattern.sub") => `(tactic| k_extra "mine call builtin:re.Pattern.sub")
local macro_rules | `(tactic| walk_at "call type:bytes") => `(tactic| k_extra "mine call type:bytes")
section -- WComp
theorem allLt_mem {d : Addr} {l : List (Addr × Obj)} (h : AllLt d l) : ∀ p ∈ l, p.1 < d := by
  induction l with
  | nil => intro p hp; cases hp
  | cons a l ih =>
    intro p hp
    rcases List.mem_cons.mp hp with rfl | hp
    · exact h.1
    · exact ih h.2 p hp
section
variable {prog : Program} {w : World} {A : Around} {E : Value → Shared → Prop} {s : Shared} {env : Env} {h₀ : Heap} {L : Addr} {m : Str → Option Value} {news : List (Addr × Obj)}
theorem paired_ints {f : Nat → Int} : ∀ {vs : List Value} {cs : List Nat} {ys : List Value}, vs.length = cs.length → (∀ (j : Nat) v, vs[j]? = some v → ∃ c u, cs[j]? = some c ∧ v = .str ⟨#[c]⟩ u) →
    Paired (fun v r => ∀ c u, v = .str ⟨#[c]⟩ u → ∃ t, r = .int (f c) t) vs ys → IntsAre ys (cs.map f)
  | [], [], _, _, _, .nil => .nil
  | [], _ :: _, _, h, _, _ => by cases h
  | _ :: _, [], _, h, _, _ => by cases h
  | v :: vs, c :: cs, _, hl, hP, .cons hF hR => by
    obtain ⟨c', u, hc, rfl⟩ := hP 0 v rfl
    obtain rfl : c = c' := by simpa using hc
    obtain ⟨t, rfl⟩ := hF c u rfl
    exact .cons _ _ (paired_ints (by simpa using hl) (fun j v hv => by simpa using hP (j + 1) v (by simpa using hv)) hR)
theorem comp_str {elt iter : Expr} {x : Str} {px : Pos} {scope : Scope} {pos : Pos} {Q : Value → Shared → Prop} {y : Str} {t : Tok} (f : Nat → Int) (F : Fr h₀ L s.heap m) (N : News h₀ L s.heap news)
    (hiter : ∀ Q' : Value → Shared → Prop, Q' (.str y t) s → wpAny (model prog w) A (eval iter env) Q' E s)
    (hh : A.handled = none) (hfree : ∀ y ∈ scope.names, y.2 ≠ .free) (hcell : ∀ y ∈ scope.names, y.2 ≠ .cell) (hkind : scope.kind = .function)
    (hnames : ∀ y ∈ scope.names, y.2 = .local → scope.names.lookup y.1 = some .local) (hx : scope.names.lookup x = some .local) (hsz : y.length ≤ sizeLine)
    (helt : ∀ C c u s₃ m₃ E', s₃.heap.Ns C m₃ → m₃ x = some (.str ⟨#[c]⟩ u) → (∀ b o, s.heap.get? b = some o → s₃.heap.get? b = some o) →
        wpAny (model prog w) A (eval elt (compEnv scope C env)) (fun r s₄ => (∃ t, r = .int (f c) t) ∧ Keeps s₃ s₄) E' s₃)
    (hQ : ∀ D vs n h' tk, Fr h₀ L h' m → News h₀ L h' ((D, listOf vs.toArray n) :: news) → IntsAre vs (y.cps.toList.map f) → (∀ q ∈ news, q.1 ≠ D) → Q (.ref D) { s with heap := h', toks := tk })
    (hs : ∀ x, foldedSetIterable iter env x = pure x) :
    wpAny (model prog w) A (eval (.ListComp elt [⟨.Name x px, iter, [], 0⟩] scope pos) env) Q E s := by
  refine wpAny_ListComp_walk (fun _ => true) (fun v r => ∀ c u, v = .str ⟨#[c]⟩ u → ∃ t, r = .int (f c) t) hfree hcell hkind hnames hx (hiter _ ?_) hs
  refine wpAny_pyIter_str fun o St W hst => ?_
  have up : ∀ (h' : Heap), (∀ b o', b ∉ [s.heap.objs.size] → (s.heap.push o).get? b = some o' → h'.get? b = some o') → ∀ b o', s.heap.get? b = some o' → h'.get? b = some o' :=
    fun h' hk b o' e => hk b o' (old_not_new e) (Heap.get?_push_of_some _ e)
  refine ⟨s.heap.objs.size, [s.heap.objs.size], [s.heap.objs.size], y.cps.size, SignAt y, St, rfl, W A hh, hsz, hst, ?_, ⟨?_, ?_⟩, ?_⟩
  · intro b hb
    show b < (s.heap.push o).objs.size
    rw [Heap.size_push, List.mem_singleton.mp hb]
    exact Nat.lt_succ_self _
  · intro C i v s₃ m₃ E' hP hn hm hk _
    exact wpAny_pure ⟨rfl, s₃.heap, s₃.toks, rfl, fun _ _ e => e⟩
  · intro C i v s₃ m₃ E' hP hp hn hm hk _
    obtain ⟨c, u, _, rfl⟩ := hP
    refine wpAny_mono (helt C c u s₃ m₃ E' hn hm (up _ hk)) (fun r s₄ h₄ => ⟨fun c' u' e => ?_, h₄.2⟩) fun _ _ e => e
    cases e
    exact h₄.1
  · intro D h' tk ys vs hnew hlD hplD hlen hP hF hk
    obtain ⟨n, hD⟩ := hplD
    rw [List.filter_eq_self.mpr (fun _ _ => rfl)] at hF
    have hne : ∀ q ∈ news, q.1 ≠ D := fun p hp e => by rw [← e, Heap.get?_push_of_some _ (N p hp).1] at hnew; cases hnew
    have h0 : h₀.get? D = none := by
      cases e : h₀.get? D with
      | none => rfl
      | some o' => rw [Heap.get?_push_of_some _ (F.keep _ _ e)] at hnew; cases hnew
    have hDL : D ≠ L := by
      rintro rfl
      have := Heap.lt_size (h := s.heap.push o) (a := D) (o := _) (Heap.get?_push_of_some _ (show s.heap.get? D = some _ from F.ns.choose_spec.choose_spec.choose_spec.1))
      rw [Heap.get?_push_of_some _ (show s.heap.get? D = some _ from F.ns.choose_spec.choose_spec.choose_spec.1)] at hnew
      cases hnew
    refine hQ D ys.toList n h' tk (F.keeps (up h' hk)) (fun q hq => ?_) (paired_ints (vs := vs) (by simpa using hlen) (fun j v hv => ?_) hF) hne
    · rcases List.mem_cons.mp hq with rfl | hq
      · exact ⟨by rw [Array.toArray_toList]; exact hD, hDL, h0⟩
      · exact (N.grown (up h' hk)) q hq
    · obtain ⟨c, u, hc, rfl⟩ := hP j v hv
      exact ⟨c, u, by simpa using hc, rfl⟩
theorem nm_boot {M : Model} {K : Frag} {mg mb : Str → Option Value} {p : Program} {loose : List Str} {mean : ExcName → Option Value} {x : Str} {pos : Pos} {v : Value} {Q : Value → Shared → Prop} (hk : env.scope.kind = .function) (hx : env.kindOf x = some .globalImplicit) (hG : env.globals = mainGlobals) (hB : env.builtins = builtinsNs)
    (X : K.In h₀) (T : Top p loose mean mg mb h₀) (keep : ∀ b o, h₀.get? b = some o → s.heap.get? b = some o) (e : nsIn K mainGlobals x = some none) (hv : bootBuiltins x = some v) (hn : x ≠ "__name__") (h : Q v s)
    (hd : (x == ("__debug__" : Str)) = false := by decide) : wpAny M A (eval (.Name x pos) env) Q E s :=
  Calls.Name_function_global hk hx (Calls.loadGlobal_builtin (mg := mg) (mb := mb) (by rw [hG]; exact T.g.keeps keep) (mg_none_of X T.g e) (by rw [hB]; exact T.b.keeps keep) ((T.builtins x hn).trans hv) h) hd
theorem nm_local {M : Model} {x : Str} {pos : Pos} {v : Value} {Q : Value → Shared → Prop} (hn : s.heap.Ns env.locals m) (hm : m x = some v) (hk : env.scope.kind = .function) (hx : env.kindOf x = some .local) (h : Q v s)
    (hd : (x == ("__debug__" : Str)) = false := by decide) : wpAny M A (eval (.Name x pos) env) Q E s := wpAny_Name (wpAny_loadName_local hk hx hn hm h) hd
theorem it_addI {a b : Addr} {vs us : List Value} {ns ms : List Int} {n n' : Nat} {Q : Value → Shared → Prop} (F : Fr h₀ L s.heap m) (N : News h₀ L s.heap news) (hm : (a, listOf vs.toArray n) ∈ news) (hI : IntsAre vs ns) (hm' : (b, listOf us.toArray n') ∈ news) (hI' : IntsAre us ms) (hz : ns.length + ms.length < 1000000)
    (h : ∀ D ys h', Fr h₀ L h' m → News h₀ L h' ((D, listOf (List.toArray ys) 0) :: news) → (∀ p ∈ news, p.1 < D) → IntsAre ys (ns ++ ms) → Q (.ref D) { s with heap := h' }) :
    wpAny (model prog w) A (binaryOp .Add (.ref a) (.ref b)) Q E s := kmk_add_ints F N (it_isList N hm) (it_isList N hm') hI hI' h (by simp [sizeLine]; omega)
end

end -- WComp
theorem reg1 : True := by
  (k_with "mine mem" => first | (first | assumption | exact List.Mem.head _ | (refine' List.Mem.tail _ ?_; k_extra "mine mem")) | fail "no")
  (k_with "mine lt" => first | (first | omega | (simp; done) | (simp; omega)) | fail "no")
  (k_with "mine look" => first | (first | assumption | exact lk_hit | exact rfl | (refine lk_miss (by decide) ?_; k_extra "mine look")) | fail "no")
  (k_with "mine eval Name" => first | ((k_here; k_dflt (refine' ld ?zqk1 ?zqk2 ?_; (case zqk1 => k_asm); (case zqk2 => k_extra "mine look"); k_whole))) | fail "no")
  (k_with "mine idx" => first | (first | assumption | exact rfl) | fail "no")
  (k_with "mine stop" => first | (( (fail_if_success (with_reducible show wpAny _ _ (exec (Stmt.While _ _ _ _) _) _ _ _)); (fail_if_success (with_reducible show wpAny _ _ (exec (Stmt.For _ _ _ _ _) _) _ _ _)); (fail_if_success (with_reducible show WTurn _ _ _ _ _)); (fail_if_success (with_reducible show UnrPost _ _ _ _ _ _ _ _ _)); (fail_if_success (with_reducible show wpAny _ _ (pyIter (Value.ref _)) (fun it s₂ => LoopAtV _ _ _ _ _ _ _ _ _ it s₂) _ _)); (fail_if_success (with_reducible show wpAny _ _ (eval (Expr.ListComp _ _ _ _) _) _ _ _)); (fail_if_success (with_reducible show WhlIf _ _ _)))) | fail "no")
  (k_with "mine steps" => first | (repeat' (k_extra "mine stop"; first | (k_unfold; (try dsimp only)) | walk1 | (dsimp only; walk1) | (leave1; walk_say "STEP leave1"; try dsimp only))) | fail "no")
  (k_with "mine subscriptTail Name Name ref int" => first | ((k_here; (with_reducible show wpAny _ _ (subscriptTail _ _ (Value.ref _) (Value.int _ _)) _ _ _); k_dflt (refine' it_get ?zqk1 ?zqk2 ?zqk3 ?zqk4 ?zqk5 ?_ ?zqk6 ?zqk7; (case zqk1 => k_asm); (case zqk2 => k_extra "mine mem"); (case zqk3 => k_extra "mine idx"); (case zqk4 => k_extra "mine lt"); (case zqk5 => k_extra "mine lt"); (case zqk6 => with_unfolding_all rfl); (case zqk7 => intro _; with_unfolding_all rfl); k_whole))) | fail "no")
  (k_with "mine subscriptTail Name Constant ref int" => first | ((k_here; (with_reducible show wpAny _ _ (subscriptTail _ _ (Value.ref _) (Value.int _ _)) _ _ _); k_dflt (refine' it_get ?zqk1 ?zqk2 ?zqk3 ?zqk4 ?zqk5 ?_ ?zqk6 ?zqk7; (case zqk1 => k_asm); (case zqk2 => k_extra "mine mem"); (case zqk3 => k_extra "mine idx"); (case zqk4 => k_extra "mine lt"); (case zqk5 => k_extra "mine lt"); (case zqk6 => with_unfolding_all rfl); (case zqk7 => intro _; with_unfolding_all rfl); k_whole))) | fail "no")
  (k_with "mine updF" => first | (first | (refine' UpdF.head ?zqa; (case zqa => first | assumption | k_all)) | (refine' UpdF.tail ?zqa ?zqb; (case zqa => k_ne); (case zqb => k_extra "mine updF"))) | fail "no")
  (k_with "mine setItem ref int str" => first | ((k_here; (with_reducible show wpAny _ _ (setItem (Value.ref _) (Value.int _ _) (Value.str _ _)) _ _ _); k_dflt (refine' it_setU ?zqk1 ?zqk2 ?zqk3 ?zqk4 ?zqk5 ?zqk6 ?_; (case zqk1 => k_asm); (case zqk2 => k_asm); (case zqk3 => k_extra "mine updF"); (case zqk4 => k_extra "mine idx"); (case zqk5 => k_extra "mine lt"); (case zqk6 => k_extra "mine lt"); k_whole); intro _ _ N'; (try dsimp only at N'); revert N'; intro _; (try k_sweep))) | fail "no")
  (k_with "mine call builtin:len cons ref" => first | ((k_here; (with_reducible show wpAny _ _ (call (Value.builtin "len") [Value.ref _]) _ _ _); k_dflt (refine' it_len ?zqk1 ?zqk2 ?zqk3 ?_; (case zqk1 => k_asm); (case zqk2 => k_extra "mine mem"); (case zqk3 => k_extra "mine lt"); k_whole))) | fail "no")
  (k_with "mine call builtin:len" => first | ((k_here; (with_reducible show wpAny _ _ (call (Value.builtin "len") [Value.ref _]) _ _ _); k_dflt (refine' it_len ?zqk1 ?zqk2 ?zqk3 ?_; (case zqk1 => k_asm); (case zqk2 => k_extra "mine mem"); (case zqk3 => k_extra "mine lt"); k_whole))) | fail "no")
  (k_with "mine truthy ref" => first | ((k_here; (with_reducible show wpAny _ _ (truthy (Value.ref _)) _ _ _); k_dflt (refine' it_truthy ?zqk1 ?zqk2 ?zqk3 ?_; (case zqk1 => k_asm); (case zqk2 => k_extra "mine mem"); (case zqk3 => k_extra "mine lt"); k_whole))) | fail "no")
  (k_with "mine call builtin:list.append" => first | ((k_here; (with_reducible show wpAny _ _ (call (Value.builtin "list.append") [Value.ref _, _]) _ _ _); k_dflt (refine' it_appendV ?zqk1 ?zqk2 ?zqk3 ?zqk4 ?_; (case zqk1 => k_asm); (case zqk2 => k_asm); (case zqk3 => k_extra "mine updF"); (case zqk4 => k_extra "mine lt"); k_whole); intro _ _ N'; (try dsimp only at N'); revert N'; intro _; (try k_sweep))) | fail "no")
  (k_with "mine call builtin:list.append" => first | ((k_here; (with_reducible show wpAny _ _ (call (Value.builtin "list.append") [Value.ref _, Value.str _ _]) _ _ _); k_dflt (refine' it_appendU ?zqk1 ?zqk2 ?zqk3 ?zqk4 ?_; (case zqk1 => k_asm); (case zqk2 => k_asm); (case zqk3 => k_extra "mine updF"); (case zqk4 => k_extra "mine lt"); k_whole); intro _ _ N'; (try dsimp only at N'); revert N'; intro _; (try k_sweep))) | fail "no")
  (k_with "mine call builtin:list.pop" => first | ((k_here; (with_reducible show wpAny _ _ (call (Value.builtin "list.pop") [Value.ref _]) _ _ _); k_dflt (refine' it_popU ?zqk1 ?zqk2 ?zqk3 ?zqk4 ?_; (case zqk1 => k_asm); (case zqk2 => k_asm); (case zqk3 => k_extra "mine updF"); (case zqk4 => k_extra "mine lt"); k_whole); intro _ _ N'; (try dsimp only at N'); revert N'; intro _; (try k_sweep))) | fail "no")
  (k_with "mine compareOp Eq ref ref" => first | ((k_here; (with_reducible show wpAny _ _ (compareOp CmpOp.Eq (Value.ref _) (Value.ref _)) _ _ _); k_dflt (refine' it_eqI ?zqk1 ?zqk2 ?zqk3 ?zqk4 ?zqk5 ?zqk6 ?_; (case zqk1 => k_asm); (case zqk2 => k_extra "mine mem"); (case zqk3 => k_extra "mine ints"); (case zqk4 => k_extra "mine mem"); (case zqk5 => k_extra "mine ints"); (case zqk6 => ktr_units); k_whole))) | fail "no")
  (k_with "mine compareOp NotEq ref ref" => first | ((k_here; (with_reducible show wpAny _ _ (compareOp CmpOp.NotEq (Value.ref _) (Value.ref _)) _ _ _); k_dflt (refine' it_neI ?zqk1 ?zqk2 ?zqk3 ?zqk4 ?zqk5 ?zqk6 ?_; (case zqk1 => k_asm); (case zqk2 => k_extra "mine mem"); (case zqk3 => k_extra "mine ints"); (case zqk4 => k_extra "mine mem"); (case zqk5 => k_extra "mine ints"); (case zqk6 => ktr_units); k_whole))) | fail "no")
  (k_with "mine ints" => first | (first | assumption | exact IntsAre.nil | (exact IntsAre.cons _ _ (by k_extra "mine ints")) | (exact intsAre_snoc (by k_extra "mine ints"))) | fail "no")
  trivial
local macro_rules | `(tactic| walk_at "mine for") => `(tactic| ((rename Fr _ _ _ _ => lF'); (with_unfolding_all refine' For_invVF lF' ?k1 ?k2 ?_; (case k1 => exact rfl); (case k2 => exact rfl); k_whole)))
theorem reg2 : True := by
  (k_with "mine fresh" => first | ((intro q9 hq9; first | exact Nat.ne_of_lt (allLt_mem (by assumption) q9 hq9) | exact Nat.ne_of_lt (allLt_mem (And.right (by assumption)) q9 hq9) | exact Nat.ne_of_lt (allLt_mem (And.right (And.right (by assumption))) q9 hq9) | exact Nat.ne_of_lt (allLt_mem (allLt_of (by assumption)) q9 hq9))) | fail "no")
  (k_with "mine binaryOp Add ref ref" => first | ((k_here; (with_reducible show wpAny _ _ (binaryOp _ (Value.ref _) (Value.ref _)) _ _ _); k_dflt (refine' it_addI ?zqk1 ?zqk2 ?zqk3 ?zqk4 ?zqk5 ?zqk6 ?zqk7 ?_; (case zqk1 => k_asm); (case zqk2 => k_asm); (case zqk3 => k_extra "mine mem"); (case zqk4 => k_extra "mine ints"); (case zqk5 => k_extra "mine mem"); (case zqk6 => k_extra "mine ints"); (case zqk7 => k_extra "mine lt"); k_whole); intro _ _ _ _ _ l1 _; (try k_lt l1); (try (revert l1; intro _)); (try k_sweep))) | fail "no")
  (k_with "mine eval Name" => first | ((k_here; (with_reducible show wpAny _ _ (eval (Expr.Name _ _) (compEnv _ _ _)) _ _ _); k_dflt (first | (refine' nm_local ?zqk1 ?zqk2 ?zqk3 ?zqk4 ?_; (case zqk3 => exact rfl); (case zqk4 => exact rfl); (case zqk1 => assumption); (case zqk2 => assumption); k_whole) | (refine' nm_boot ?zqk1 ?zqk2 ?zqk3 ?zqk4 ?zqk5 ?zqk6 ?zqk7 ?zqk8 ?zqk9 ?zqk10 ?_; (case zqk1 => exact rfl); (case zqk2 => exact rfl); (case zqk3 => exact rfl); (case zqk4 => exact rfl); (case zqk5 => k_asm); (case zqk6 => k_asm); (case zqk7 => assumption); (case zqk8 => k_is); (case zqk9 => boot_by_name); (case zqk10 => decide); k_whole)))) | fail "no")
  (k_with "mine enter" => first | ((refine' code_def ?zqk1 ?zqk2 ?zqk3 ?zqk4 ?zqk5 ?zqkA ?zqkF ?zqkK ?zqk6 ?zqk7 ?zqk8 ?zqk9 ?zqkB ?_ ?zqc2 ?zqc3 ?zqc4 ?zqc5; (case zqkA => exact rfl); (case zqkF => exact rfl); (case zqkK => assumption); (case zqk1 => k_asm); (case zqk2 => k_asm); (case zqk3 => k_asm); (case zqk4 => k_asm); (case zqk5 => k_asm); (case zqk6 => k_is); (case zqk7 => k_is); (case zqk8 => ktr_room); (case zqk9 => first | exact BindsTo.of_eq rfl | exact binds_K (by k_in) rfl (by k_is) rfl rfl rfl); (case zqc5 => decide); (case zqkB => exact locs rfl); (case zqc2 => exact rfl); (case zqc3 => exact rfl); (case zqc4 => exact rfl); k_whole; intro _ _ _ _ _ _ _ _ _; (try dsimp only); (try k_fold))) | fail "no")
  (k_with "mine freshL" => first | ((intro q9 hq9; first | exact (allLt_mem (by assumption) q9 hq9) | exact (allLt_mem (And.right (by assumption)) q9 hq9) | exact (allLt_mem (And.right (And.right (by assumption))) q9 hq9) | exact (allLt_mem (allLt_of (by assumption)) q9 hq9))) | fail "no")
  trivial
section -- WSiftdown
abbrev d0 : Str × Tok := (Str.empty, 0)
theorem par_eq {k : Nat} (h : 0 < k) : ((k : Int) - 1).fdiv (2 ^ (1 : Int).toNat) = (((k - 1) / 2 : Nat) : Int) := by
  have e : (2 : Int) ^ (1 : Int).toNat = 2 := rfl
  rw [e, Int.fdiv_eq_ediv_of_nonneg _ (by omega)]
  omega
theorem siftdown_spec {prog : Program} {w : World} {p : Program} {loose : List Str} {mean : ExcName → Option Value} {mg mb : Str → Option Value} {dp un : Nat} {gd : Option (List Code)} {cn : Str} {cs : Scope} {a : Addr} {ccd : Value} {cl : List (Str × Addr)} {outer : List Env} {A₀ : Around} {base h₀ : Heap} {L : Addr} {m : Str → Option Value}
    {news : List (Addr × Obj)} {s : Shared} {Q E : Value → Shared → Prop} {hp : Addr} {xs : List (Str × Tok)} {n : Nat} {sp ps : Nat} {k1 k2 : Int} {t1 t2 : Tok}
    (B : Below A₀ base outer h₀) (F : Fr h₀ L s.heap m) (X : (Mine.hd.heap_39 w.params).In h₀) (N : News h₀ L s.heap ((hp, slist xs n) :: news)) (T : Top p loose mean mg mb h₀) (hk : cs.kind = .function)
    (hne : ∀ q ∈ news, q.1 ≠ hp) (hlen : xs.length < 1000) (hps : ps < xs.length)
    (hk1 : k1 = ((sp : Nat) : Int)) (hk2 : k2 = ((ps : Nat) : Int)) (hd : dp + 1 < recursionLimit) (hu : un + 500 < cLine)
    (ret : ∀ h' tk', Fr h₀ L h' m → News h₀ L h' ((hp, slist (siftdown wlt d0 xs sp ps) n) :: news) → Q .none { s with heap := h', toks := tk' }) :
    wpAny (model prog w) (ktrTop dp un gd cn cs L a ccd cl outer) (call (.ref 73) [.ref hp, .int k1 t1, .int k2 t2]) Q E s := by
  subst hk1 hk2
  refine wpAny_call ?_
  k_dflt ktr_enter
  rename_i g1 L1 hh1 FG1 F1 N1 B1 X1 T1
  obtain ⟨m1, hm1, F1'⟩ := fr_name F1
  clear F1
  have e1 : m1 (Str.ofString "heap") = some (.ref hp) := by rw [hm1]; rfl
  have e2 : m1 (Str.ofString "startpos") = some (.int (sp : Int) t1) := by rw [hm1]; rfl
  have e3 : m1 (Str.ofString "pos") = some (.int (ps : Int) t2) := by rw [hm1]; rfl
  clear hm1 N
  k_extra "mine steps"
  rename_i h1 F1 N1
  refine whl_inv
    (fun k s' => ∃ j h tk m ys q t, k = j + 1 ∧ s' = { s with heap := h, toks := tk } ∧ Fr g1 L1 h m ∧ News g1 L1 h ((hp, slist ys n) :: news) ∧ m (Str.ofString "heap") = some (.ref hp) ∧ m (Str.ofString "startpos") = some (.int (sp : Int) t1) ∧
      m (Str.ofString "newitem") = some (sv (xs.getD ps d0)) ∧ m (Str.ofString "pos") = some (.int ((q : Nat) : Int) t) ∧ q ≤ j ∧ q < ys.length ∧ ys.length = xs.length ∧ sdL wlt d0 sp (xs.getD ps d0) j ys q = siftdown wlt d0 xs sp ps)
    (fun s' => ∃ h tk m ys q t, s' = { s with heap := h, toks := tk } ∧ Fr g1 L1 h m ∧ News g1 L1 h ((hp, slist ys n) :: news) ∧ m (Str.ofString "heap") = some (.ref hp) ∧
      m (Str.ofString "newitem") = some (sv (xs.getD ps d0)) ∧ m (Str.ofString "pos") = some (.int ((q : Nat) : Int) t) ∧ q < ys.length ∧ ys.length = xs.length ∧ ys.set q (xs.getD ps d0) = siftdown wlt d0 xs sp ps)
    PassesOwn.leaving (ps + 1) ⟨ps, h1, _, _, xs, ps, t2, rfl, rfl, F1, N1, by k_extra "mine look", by k_extra "mine look", by k_extra "mine look", by k_extra "mine look", Nat.le_refl _, hps, rfl, rfl⟩ ?_ ?_ ?_
  · clear F1 N1 h1 e1 e2 e3
    rintro s' ⟨h, tk, m, ys, q, t, rfl, F1, N1, e1, e2, e3, hq, hl, hr⟩
    dsimp only
    rw [← hr] at ret
    k_extra "mine steps"
    exact ret _ _ (by k_asm) (by k_asm)
  · rintro s' ⟨j, h, tk, m, ys, q, t, hk, _⟩
    omega
  · clear F1 N1 h1 e1 e2 e3
    rintro k s' ⟨j, h, tk, m, ys, q, t, hkj, rfl, F1, N1, e1, e2, e3, e4, hj, hq, hl, hr⟩
    obtain rfl : j = k := by omega
    k_extra "mine steps"
    by_cases hs : sp < q
    · refine WhlIf.yes (by simpa using hs) ?_
      obtain ⟨i, rfl⟩ : ∃ i, j = i + 1 := ⟨j - 1, by omega⟩
      unfold sdL at hr
      rw [if_pos hs] at hr
      have hpe := par_eq (k := q) (by omega)
      k_extra "mine steps"
      · have hlt : (xs.getD ps d0).fst.cps.toList < (ys.getD ((q - 1) / 2) d0).fst.cps.toList := by assumption
        dsimp only [WTurn]
        refine ⟨i, _, _, _, _, _, _, rfl, rfl, by k_asm, by k_asm, by k_extra "mine look", by k_extra "mine look", by k_extra "mine look", by rw [← hpe]; k_extra "mine look", by omega, by rw [List.length_set]; omega, by rw [List.length_set]; exact hl, ?_⟩
        rw [← hr, if_pos (decide_eq_true hlt)]
      · rename_i h2 F2 N2 hlt
        dsimp only [WTurn]
        refine ⟨_, _, _, ys, q, t, rfl, F2, N2, by k_extra "mine look", by k_extra "mine look", by k_extra "mine look", hq, hl, ?_⟩
        rw [← hr, if_neg (fun h => hlt (of_decide_eq_true h))]
    · refine WhlIf.no (by simpa using hs) ?_
      refine ⟨h, tk, m, ys, q, t, rfl, F1, N1, e1, e3, e4, hq, hl, ?_⟩
      rw [← hr]
      cases j with
      | zero => rfl
      | succ i => unfold sdL; rw [if_neg hs]
theorem siftdown_specU {prog : Program} {w : World} {p : Program} {loose : List Str} {mean : ExcName → Option Value} {mg mb : Str → Option Value} {dp un : Nat} {gd : Option (List Code)} {cn : Str} {cs : Scope} {a : Addr} {ccd : Value} {cl : List (Str × Addr)} {outer : List Env} {A₀ : Around} {base h₀ : Heap} {L : Addr} {m : Str → Option Value}
    {news : List (Addr × Obj)} {g : Obj → List (Addr × Obj)} {s : Shared} {Q E : Value → Shared → Prop} {hp : Addr} {xs : List (Str × Tok)} {n : Nat} {sp ps : Nat} {k1 k2 : Int} {t1 t2 : Tok}
    (B : Below A₀ base outer h₀) (F : Fr h₀ L s.heap m) (X : (Mine.hd.heap_39 w.params).In h₀) (N : News h₀ L s.heap news) (T : Top p loose mean mg mb h₀) (hk : cs.kind = .function)
    (U : UpdF hp (slist xs n) news g) (hlen : xs.length < 1000) (hps : ps < xs.length)
    (hk1 : k1 = ((sp : Nat) : Int)) (hk2 : k2 = ((ps : Nat) : Int)) (hd : dp + 1 < recursionLimit) (hu : un + 500 < cLine)
    (ret : ∀ h' tk', Fr h₀ L h' m → News h₀ L h' (g (slist (siftdown wlt d0 xs sp ps) n)) → Q .none { s with heap := h', toks := tk' }) :
    wpAny (model prog w) (ktrTop dp un gd cn cs L a ccd cl outer) (call (.ref 73) [.ref hp, .int k1 t1, .int k2 t2]) Q E s := by
  obtain ⟨rest, hne, nf, nb⟩ := news_front U
  exact siftdown_spec B F X (nf _ _ _ N) T hk hne hlen hps hk1 hk2 hd hu fun h' tk' F' N' => ret h' tk' F' (nb _ _ _ _ N')

end -- WSiftdown
section -- WSiftup
theorem reg3 : True := by
  (k_with "mine call ref" => first | ((k_here; (with_reducible show wpAny _ _ (call (Value.ref 73) [Value.ref _, Value.int _ _, Value.int _ _]) _ _ _); k_dflt (refine' siftdown_specU ?zqk1 ?zqk2 ?zqk3 ?zqk4 ?zqk5 ?zqk6 ?zqk7 ?zqk8 ?zqk9 ?zqk12 ?zqk13 ?zqk10 ?zqk11 ?_; (case zqk1 => k_asm); (case zqk2 => k_asm); (case zqk3 => k_asm); (case zqk4 => k_asm); (case zqk5 => k_asm); (case zqk6 => rfl); (case zqk7 => k_extra "mine updF"); (case zqk12 => k_extra "mine idx"); (case zqk13 => k_extra "mine idx"); (case zqk8 => k_extra "mine lt"); (case zqk9 => k_extra "mine lt"); (case zqk10 => ktr_room); (case zqk11 => ktr_units); k_whole); intro _ _ _ N'; (try dsimp only at N'); revert N'; intro _; (try k_sweep))) | fail "no")
  trivial
theorem siftup_spec {prog : Program} {w : World} {p : Program} {loose : List Str} {mean : ExcName → Option Value} {mg mb : Str → Option Value} {dp un : Nat} {gd : Option (List Code)} {cn : Str} {cs : Scope} {a : Addr} {ccd : Value} {cl : List (Str × Addr)} {outer : List Env} {A₀ : Around} {base h₀ : Heap} {L : Addr} {m : Str → Option Value}
    {news : List (Addr × Obj)} {s : Shared} {Q E : Value → Shared → Prop} {hp : Addr} {xs : List (Str × Tok)} {n : Nat} {ps : Nat} {k2 : Int} {t2 : Tok}
    (B : Below A₀ base outer h₀) (F : Fr h₀ L s.heap m) (X : (Mine.hd.heap_39 w.params).In h₀) (N : News h₀ L s.heap ((hp, slist xs n) :: news)) (T : Top p loose mean mg mb h₀) (hk : cs.kind = .function)
    (hne : ∀ q ∈ news, q.1 ≠ hp) (hlen : xs.length < 1000) (hps : ps < xs.length)
    (hk2 : k2 = ((ps : Nat) : Int)) (hd : dp + 2 < recursionLimit) (hu : un + 600 < cLine)
    (ret : ∀ h' tk', Fr h₀ L h' m → News h₀ L h' ((hp, slist (siftup wlt d0 xs ps) n) :: news) → Q .none { s with heap := h', toks := tk' }) :
    wpAny (model prog w) (ktrTop dp un gd cn cs L a ccd cl outer) (call (.ref 80) [.ref hp, .int k2 t2]) Q E s := by
  subst hk2
  refine wpAny_call ?_
  k_dflt ktr_enter
  rename_i g1 L1 hh1 FG1 F1 N1 B1 X1 T1
  obtain ⟨m1, hm1, F1'⟩ := fr_name F1
  clear F1
  have e1 : m1 (Str.ofString "heap") = some (.ref hp) := by rw [hm1]; rfl
  have e2 : m1 (Str.ofString "pos") = some (.int (ps : Int) t2) := by rw [hm1]; rfl
  clear hm1 N
  k_extra "mine steps"
  rename_i h1 F1 N1
  refine whl_inv
    (fun k s' => ∃ j h tk m ys q c t t', k = j + 1 ∧ s' = { s with heap := h, toks := tk } ∧ Fr g1 L1 h m ∧ News g1 L1 h ((hp, slist ys n) :: news) ∧ m (Str.ofString "heap") = some (.ref hp) ∧ m (Str.ofString "startpos") = some (.int (ps : Int) t2) ∧
      m (Str.ofString "newitem") = some (sv (xs.getD ps d0)) ∧ m (Str.ofString "pos") = some (.int ((q : Nat) : Int) t) ∧ m (Str.ofString "childpos") = some (.int c t') ∧ (∃ t, m (Str.ofString "endpos") = some (.int (xs.length : Int) t)) ∧
      c = ((2 * q + 1 : Nat) : Int) ∧ xs.length ≤ j + q ∧ q < ys.length ∧ ys.length = xs.length ∧ suL wlt d0 xs.length j ys q = suL wlt d0 xs.length xs.length xs ps)
    (fun s' => ∃ h tk m ys q t, s' = { s with heap := h, toks := tk } ∧ Fr g1 L1 h m ∧ News g1 L1 h ((hp, slist ys n) :: news) ∧ m (Str.ofString "heap") = some (.ref hp) ∧ m (Str.ofString "startpos") = some (.int (ps : Int) t2) ∧
      m (Str.ofString "newitem") = some (sv (xs.getD ps d0)) ∧ m (Str.ofString "pos") = some (.int ((q : Nat) : Int) t) ∧ q < ys.length ∧ ys.length = xs.length ∧ suL wlt d0 xs.length xs.length xs ps = (ys, q))
    PassesOwn.leaving (xs.length + 1) ⟨xs.length, h1, _, _, xs, ps, _, t2, _, rfl, rfl, F1, N1, by k_extra "mine look", by k_extra "mine look", by k_extra "mine look", by k_extra "mine look", by k_extra "mine look", ⟨_, by k_extra "mine look"⟩, by omega, by omega, hps, rfl, rfl⟩ ?_ ?_ ?_
  · clear F1 N1 h1 e1 e2
    rintro s' ⟨h, tk, m, ys, q, t, rfl, F1, N1, e1, e2, e3, e4, hq, hl, hr⟩
    dsimp only
    have hr' : siftup wlt d0 xs ps = siftdown wlt d0 (ys.set q (xs.getD ps d0)) ps q := by unfold siftup; rw [hr]
    rw [hr'] at ret
    have hl' : (ys.set q (xs.getD ps d0)).length = xs.length := by rw [List.length_set]; exact hl
    k_extra "mine steps"
    exact ret _ _ (by k_asm) (by k_asm)
  · rintro s' ⟨j, h, tk, m, ys, q, c, t, t', hk, _⟩
    omega
  · clear F1 N1 h1 e1 e2
    rintro k s' ⟨j, h, tk, m, ys, q, c, t, t', hkj, rfl, F1, N1, e1, e2, e3, e4, e5, ⟨t'', e6⟩, hc, hj, hq, hl, hr⟩
    obtain rfl : j = k := by omega
    k_extra "mine steps"
    by_cases hs : 2 * q + 1 < xs.length
    · refine WhlIf.yes (decide_eq_true (by omega)) ?_
      obtain ⟨i, rfl⟩ : ∃ i, j = i + 1 := ⟨j - 1, by omega⟩
      rw [suL_succ, if_pos hs] at hr
      have hc1 : c + 1 = ((2 * q + 2 : Nat) : Int) := by omega
      have kR : 2 * q + 2 < xs.length → ¬ (ys.getD (2 * q + 1) d0).1.cps.toList < (ys.getD (2 * q + 2) d0).1.cps.toList → kidL wlt d0 ys xs.length q = 2 * q + 2 := fun h1 h2 => by
        unfold kidL; rw [if_pos ⟨h1, decide_eq_false h2⟩]
      have kL : (¬ 2 * q + 2 < xs.length) ∨ (ys.getD (2 * q + 1) d0).1.cps.toList < (ys.getD (2 * q + 2) d0).1.cps.toList → kidL wlt d0 ys xs.length q = 2 * q + 1 := fun h => by
        unfold kidL
        rw [if_neg]
        rintro ⟨h1, h2⟩
        rcases h with h | h
        · exact h h1
        · exact of_decide_eq_false h2 h
      k_extra "mine steps"
      all_goals dsimp only [WTurn]
      all_goals first
        | (rw [kR (by omega) (by first | assumption | simp_all)] at hr
           refine ⟨i, _, _, _, _, 2 * q + 2, _, _, _, rfl, rfl, by k_asm, by k_asm, by k_extra "mine look", by k_extra "mine look", by k_extra "mine look", by rw [← hc1]; k_extra "mine look", by k_extra "mine look", ⟨_, by k_extra "mine look"⟩, by omega, by omega, by rw [List.length_set]; omega, by rw [List.length_set]; exact hl, hr⟩)
        | (rw [kL (by first | (left; omega) | (right; first | assumption | simp_all))] at hr
           refine ⟨i, _, _, _, _, 2 * q + 1, _, _, _, rfl, rfl, by k_asm, by k_asm, by k_extra "mine look", by k_extra "mine look", by k_extra "mine look", by rw [← hc]; k_extra "mine look", by k_extra "mine look", ⟨_, by k_extra "mine look"⟩, by omega, by omega, by rw [List.length_set]; omega, by rw [List.length_set]; exact hl, hr⟩)
    · refine WhlIf.no (decide_eq_false (by omega)) ?_
      refine ⟨h, tk, m, ys, q, t, rfl, F1, N1, e1, e2, e3, e4, hq, hl, ?_⟩
      rw [← hr]
      cases j with
      | zero => rfl
      | succ i => unfold suL; rw [if_neg hs]
theorem siftup_specU {prog : Program} {w : World} {p : Program} {loose : List Str} {mean : ExcName → Option Value} {mg mb : Str → Option Value} {dp un : Nat} {gd : Option (List Code)} {cn : Str} {cs : Scope} {a : Addr} {ccd : Value} {cl : List (Str × Addr)} {outer : List Env} {A₀ : Around} {base h₀ : Heap} {L : Addr} {m : Str → Option Value}
    {news : List (Addr × Obj)} {g : Obj → List (Addr × Obj)} {s : Shared} {Q E : Value → Shared → Prop} {hp : Addr} {xs : List (Str × Tok)} {n : Nat} {ps : Nat} {k2 : Int} {t2 : Tok}
    (B : Below A₀ base outer h₀) (F : Fr h₀ L s.heap m) (X : (Mine.hd.heap_39 w.params).In h₀) (N : News h₀ L s.heap news) (T : Top p loose mean mg mb h₀) (hk : cs.kind = .function)
    (U : UpdF hp (slist xs n) news g) (hlen : xs.length < 1000) (hps : ps < xs.length)
    (hk2 : k2 = ((ps : Nat) : Int)) (hd : dp + 2 < recursionLimit) (hu : un + 600 < cLine)
    (ret : ∀ h' tk', Fr h₀ L h' m → News h₀ L h' (g (slist (siftup wlt d0 xs ps) n)) → Q .none { s with heap := h', toks := tk' }) :
    wpAny (model prog w) (ktrTop dp un gd cn cs L a ccd cl outer) (call (.ref 80) [.ref hp, .int k2 t2]) Q E s := by
  obtain ⟨rest, hne, nf, nb⟩ := news_front U
  exact siftup_spec B F X (nf _ _ _ N) T hk hne hlen hps hk2 hd hu fun h' tk' F' N' => ret h' tk' F' (nb _ _ _ _ N')

end -- WSiftup
section -- WHeapOps
theorem reg4 : True := by
  (k_with "mine call ref" => first | ((k_here; (with_reducible show wpAny _ _ (call (Value.ref 73) [Value.ref _, Value.int _ _, Value.int _ _]) _ _ _); k_dflt (refine' siftdown_specU ?zqk1 ?zqk2 ?zqk3 ?zqk4 ?zqk5 ?zqk6 ?zqk7 ?zqk8 ?zqk9 ?zqk12 ?zqk13 ?zqk10 ?zqk11 ?_; (case zqk1 => k_asm); (case zqk2 => k_asm); (case zqk3 => k_asm); (case zqk4 => k_asm); (case zqk5 => k_asm); (case zqk6 => rfl); (case zqk7 => k_extra "mine updF"); (case zqk12 => k_extra "mine idx"); (case zqk13 => k_extra "mine idx"); (case zqk8 => k_extra "mine lt"); (case zqk9 => k_extra "mine lt"); (case zqk10 => ktr_room); (case zqk11 => ktr_units); k_whole); intro _ _ _ N'; (try dsimp only at N'); revert N'; intro _; (try k_sweep))) | fail "no")
  (k_with "mine call ref" => first | ((k_here; (with_reducible show wpAny _ _ (call (Value.ref 80) [Value.ref _, Value.int _ _]) _ _ _); k_dflt (refine' siftup_specU ?zqk1 ?zqk2 ?zqk3 ?zqk4 ?zqk5 ?zqk6 ?zqk7 ?zqk8 ?zqk9 ?zqk12 ?zqk10 ?zqk11 ?_; (case zqk1 => k_asm); (case zqk2 => k_asm); (case zqk3 => k_asm); (case zqk4 => k_asm); (case zqk5 => k_asm); (case zqk6 => rfl); (case zqk7 => k_extra "mine updF"); (case zqk12 => k_extra "mine idx"); (case zqk8 => k_extra "mine lt"); (case zqk9 => k_extra "mine lt"); (case zqk10 => ktr_room); (case zqk11 => ktr_units); k_whole); intro _ _ _ N'; (try dsimp only at N'); revert N'; intro _; (try k_sweep))) | fail "no")
  trivial
theorem zz : (0 : Int) = ((0 : Nat) : Int) := rfl
theorem heappush_spec {prog : Program} {w : World} {p : Program} {loose : List Str} {mean : ExcName → Option Value} {mg mb : Str → Option Value} {dp un : Nat} {gd : Option (List Code)} {cn : Str} {cs : Scope} {a : Addr} {ccd : Value} {cl : List (Str × Addr)} {outer : List Env} {A₀ : Around} {base h₀ : Heap} {L : Addr} {m : Str → Option Value}
    {news : List (Addr × Obj)} {s : Shared} {Q E : Value → Shared → Prop} {hp : Addr} {n : Nat} {xs : List (Str × Tok)} {x : Str × Tok}
    (B : Below A₀ base outer h₀) (F : Fr h₀ L s.heap m) (X : (Mine.hd.heap_39 w.params).In h₀) (N : News h₀ L s.heap ((hp, slist xs n) :: news)) (T : Top p loose mean mg mb h₀) (hk : cs.kind = .function)
    (hne : ∀ q ∈ news, q.1 ≠ hp) (hlen : xs.length < 900)
    (hd : dp + 4 < recursionLimit) (hu : un + 700 < cLine)
    (ret : ∀ h' tk', Fr h₀ L h' m → News h₀ L h' ((hp, slist (siftdown wlt d0 (xs ++ [x]) 0 xs.length) (n + 1)) :: news) → Q .none { s with heap := h', toks := tk' }) :
    wpAny (model prog w) (ktrTop dp un gd cn cs L a ccd cl outer) (call (.ref 38) [.ref hp, sv x]) Q E s := by
  refine wpAny_call ?_
  k_dflt ktr_enter
  rename_i g1 L1 hh1 FG1 F1 N1 B1 X1 T1
  obtain ⟨m1, hm1, F1'⟩ := fr_name F1
  clear F1
  have e1 : m1 (Str.ofString "heap") = some (.ref hp) := by rw [hm1]; rfl
  have e2 : m1 (Str.ofString "item") = some (sv x) := by rw [hm1]; rfl
  clear hm1 N
  have hl : (xs ++ [x]).length = xs.length + 1 := by simp
  have h0 := zz
  have h1 : (((xs ++ [x]).length : Nat) : Int) - 1 = ((xs.length : Nat) : Int) := by omega
  k_extra "mine steps"
  all_goals first | exact ret _ _ (by k_asm) (by k_asm) | (exfalso; omega)
theorem heappop1_spec {prog : Program} {w : World} {p : Program} {loose : List Str} {mean : ExcName → Option Value} {mg mb : Str → Option Value} {dp un : Nat} {gd : Option (List Code)} {cn : Str} {cs : Scope} {a : Addr} {ccd : Value} {cl : List (Str × Addr)} {outer : List Env} {A₀ : Around} {base h₀ : Heap} {L : Addr} {m : Str → Option Value}
    {news : List (Addr × Obj)} {s : Shared} {Q E : Value → Shared → Prop} {hp : Addr} {n : Nat} {x : Str × Tok}
    (B : Below A₀ base outer h₀) (F : Fr h₀ L s.heap m) (X : (Mine.hd.heap_39 w.params).In h₀) (N : News h₀ L s.heap ((hp, slist ([] ++ [x]) n) :: news)) (T : Top p loose mean mg mb h₀) (hk : cs.kind = .function)
    (hne : ∀ q ∈ news, q.1 ≠ hp) 
    (hd : dp + 4 < recursionLimit) (hu : un + 700 < cLine)
    (ret : ∀ h' tk', Fr h₀ L h' m → News h₀ L h' ((hp, slist [] (n + 1)) :: news) → Q (sv x) { s with heap := h', toks := tk' }) :
    wpAny (model prog w) (ktrTop dp un gd cn cs L a ccd cl outer) (call (.ref 45) [.ref hp]) Q E s := by
  refine wpAny_call ?_
  k_dflt ktr_enter
  rename_i g1 L1 hh1 FG1 F1 N1 B1 X1 T1
  obtain ⟨m1, hm1, F1'⟩ := fr_name F1
  clear F1
  have e1 : m1 (Str.ofString "heap") = some (.ref hp) := by rw [hm1]; rfl
  clear hm1 N
  k_extra "mine steps"
  all_goals first | exact ret _ _ (by k_asm) (by k_asm) | (exfalso; omega)
theorem heappop_spec {prog : Program} {w : World} {p : Program} {loose : List Str} {mean : ExcName → Option Value} {mg mb : Str → Option Value} {dp un : Nat} {gd : Option (List Code)} {cn : Str} {cs : Scope} {a : Addr} {ccd : Value} {cl : List (Str × Addr)} {outer : List Env} {A₀ : Around} {base h₀ : Heap} {L : Addr} {m : Str → Option Value}
    {news : List (Addr × Obj)} {s : Shared} {Q E : Value → Shared → Prop} {hp : Addr} {n : Nat} {y : Str × Tok} {ys : List (Str × Tok)} {x : Str × Tok}
    (B : Below A₀ base outer h₀) (F : Fr h₀ L s.heap m) (X : (Mine.hd.heap_39 w.params).In h₀) (N : News h₀ L s.heap ((hp, slist ((y :: ys) ++ [x]) n) :: news)) (T : Top p loose mean mg mb h₀) (hk : cs.kind = .function)
    (hne : ∀ q ∈ news, q.1 ≠ hp) (hlen : ys.length < 900)
    (hd : dp + 4 < recursionLimit) (hu : un + 700 < cLine)
    (ret : ∀ h' tk', Fr h₀ L h' m → News h₀ L h' ((hp, slist (siftup wlt d0 ((y :: ys).set 0 x) 0) (n + 1)) :: news) → Q (sv y) { s with heap := h', toks := tk' }) :
    wpAny (model prog w) (ktrTop dp un gd cn cs L a ccd cl outer) (call (.ref 45) [.ref hp]) Q E s := by
  refine wpAny_call ?_
  k_dflt ktr_enter
  rename_i g1 L1 hh1 FG1 F1 N1 B1 X1 T1
  obtain ⟨m1, hm1, F1'⟩ := fr_name F1
  clear F1
  have e1 : m1 (Str.ofString "heap") = some (.ref hp) := by rw [hm1]; rfl
  clear hm1 N
  have h0 := zz
  have hpos : 0 < (y :: ys).length := by simp
  k_extra "mine steps"
  all_goals first | exact ret _ _ (by k_asm) (by k_asm) | (exfalso; omega)
theorem heapreplace_spec {prog : Program} {w : World} {p : Program} {loose : List Str} {mean : ExcName → Option Value} {mg mb : Str → Option Value} {dp un : Nat} {gd : Option (List Code)} {cn : Str} {cs : Scope} {a : Addr} {ccd : Value} {cl : List (Str × Addr)} {outer : List Env} {A₀ : Around} {base h₀ : Heap} {L : Addr} {m : Str → Option Value}
    {news : List (Addr × Obj)} {s : Shared} {Q E : Value → Shared → Prop} {hp : Addr} {n : Nat} {y : Str × Tok} {ys : List (Str × Tok)} {x : Str × Tok}
    (B : Below A₀ base outer h₀) (F : Fr h₀ L s.heap m) (X : (Mine.hd.heap_39 w.params).In h₀) (N : News h₀ L s.heap ((hp, slist (y :: ys) n) :: news)) (T : Top p loose mean mg mb h₀) (hk : cs.kind = .function)
    (hne : ∀ q ∈ news, q.1 ≠ hp) (hlen : ys.length < 900)
    (hd : dp + 4 < recursionLimit) (hu : un + 700 < cLine)
    (ret : ∀ h' tk', Fr h₀ L h' m → News h₀ L h' ((hp, slist (siftup wlt d0 ((y :: ys).set 0 x) 0) n) :: news) → Q (sv y) { s with heap := h', toks := tk' }) :
    wpAny (model prog w) (ktrTop dp un gd cn cs L a ccd cl outer) (call (.ref 52) [.ref hp, sv x]) Q E s := by
  refine wpAny_call ?_
  k_dflt ktr_enter
  rename_i g1 L1 hh1 FG1 F1 N1 B1 X1 T1
  obtain ⟨m1, hm1, F1'⟩ := fr_name F1
  clear F1
  have e1 : m1 (Str.ofString "heap") = some (.ref hp) := by rw [hm1]; rfl
  have e2 : m1 (Str.ofString "item") = some (sv x) := by rw [hm1]; rfl
  clear hm1 N
  have h0 := zz
  k_extra "mine steps"
  all_goals first | exact ret _ _ (by k_asm) (by k_asm) | (exfalso; omega)
theorem heappushpop0_spec {prog : Program} {w : World} {p : Program} {loose : List Str} {mean : ExcName → Option Value} {mg mb : Str → Option Value} {dp un : Nat} {gd : Option (List Code)} {cn : Str} {cs : Scope} {a : Addr} {ccd : Value} {cl : List (Str × Addr)} {outer : List Env} {A₀ : Around} {base h₀ : Heap} {L : Addr} {m : Str → Option Value}
    {news : List (Addr × Obj)} {s : Shared} {Q E : Value → Shared → Prop} {hp : Addr} {n : Nat} {x : Str × Tok}
    (B : Below A₀ base outer h₀) (F : Fr h₀ L s.heap m) (X : (Mine.hd.heap_39 w.params).In h₀) (N : News h₀ L s.heap ((hp, slist ([] : List (Str × Tok)) n) :: news)) (T : Top p loose mean mg mb h₀) (hk : cs.kind = .function)
    (hne : ∀ q ∈ news, q.1 ≠ hp) 
    (hd : dp + 4 < recursionLimit) (hu : un + 700 < cLine)
    (ret : ∀ h' tk', Fr h₀ L h' m → News h₀ L h' ((hp, slist ([] : List (Str × Tok)) n) :: news) → Q (sv x) { s with heap := h', toks := tk' }) :
    wpAny (model prog w) (ktrTop dp un gd cn cs L a ccd cl outer) (call (.ref 59) [.ref hp, sv x]) Q E s := by
  refine wpAny_call ?_
  k_dflt ktr_enter
  rename_i g1 L1 hh1 FG1 F1 N1 B1 X1 T1
  obtain ⟨m1, hm1, F1'⟩ := fr_name F1
  clear F1
  have e1 : m1 (Str.ofString "heap") = some (.ref hp) := by rw [hm1]; rfl
  have e2 : m1 (Str.ofString "item") = some (sv x) := by rw [hm1]; rfl
  clear hm1 N
  have h0 := zz
  k_extra "mine steps"
  all_goals first | exact ret _ _ (by k_asm) (by k_asm) | (exfalso; omega)
theorem heappushpopN_spec {prog : Program} {w : World} {p : Program} {loose : List Str} {mean : ExcName → Option Value} {mg mb : Str → Option Value} {dp un : Nat} {gd : Option (List Code)} {cn : Str} {cs : Scope} {a : Addr} {ccd : Value} {cl : List (Str × Addr)} {outer : List Env} {A₀ : Around} {base h₀ : Heap} {L : Addr} {m : Str → Option Value}
    {news : List (Addr × Obj)} {s : Shared} {Q E : Value → Shared → Prop} {hp : Addr} {n : Nat} {y : Str × Tok} {ys : List (Str × Tok)} {x : Str × Tok}
    (B : Below A₀ base outer h₀) (F : Fr h₀ L s.heap m) (X : (Mine.hd.heap_39 w.params).In h₀) (N : News h₀ L s.heap ((hp, slist (y :: ys) n) :: news)) (T : Top p loose mean mg mb h₀) (hk : cs.kind = .function)
    (hne : ∀ q ∈ news, q.1 ≠ hp) (hlen : ys.length < 900) (hlt : ¬ y.1.cps.toList < x.1.cps.toList)
    (hd : dp + 4 < recursionLimit) (hu : un + 700 < cLine)
    (ret : ∀ h' tk', Fr h₀ L h' m → News h₀ L h' ((hp, slist (y :: ys) n) :: news) → Q (sv x) { s with heap := h', toks := tk' }) :
    wpAny (model prog w) (ktrTop dp un gd cn cs L a ccd cl outer) (call (.ref 59) [.ref hp, sv x]) Q E s := by
  refine wpAny_call ?_
  k_dflt ktr_enter
  rename_i g1 L1 hh1 FG1 F1 N1 B1 X1 T1
  obtain ⟨m1, hm1, F1'⟩ := fr_name F1
  clear F1
  have e1 : m1 (Str.ofString "heap") = some (.ref hp) := by rw [hm1]; rfl
  have e2 : m1 (Str.ofString "item") = some (sv x) := by rw [hm1]; rfl
  clear hm1 N
  have h0 := zz
  have hpos : 0 < (y :: ys).length := by simp
  have hy : (y :: ys).getD 0 (Str.empty, 0) = y := rfl
  k_extra "mine steps"
  exact ret _ _ (by k_asm) (by k_asm)
theorem heappushpopY_spec {prog : Program} {w : World} {p : Program} {loose : List Str} {mean : ExcName → Option Value} {mg mb : Str → Option Value} {dp un : Nat} {gd : Option (List Code)} {cn : Str} {cs : Scope} {a : Addr} {ccd : Value} {cl : List (Str × Addr)} {outer : List Env} {A₀ : Around} {base h₀ : Heap} {L : Addr} {m : Str → Option Value}
    {news : List (Addr × Obj)} {s : Shared} {Q E : Value → Shared → Prop} {hp : Addr} {n : Nat} {y : Str × Tok} {ys : List (Str × Tok)} {x : Str × Tok}
    (B : Below A₀ base outer h₀) (F : Fr h₀ L s.heap m) (X : (Mine.hd.heap_39 w.params).In h₀) (N : News h₀ L s.heap ((hp, slist (y :: ys) n) :: news)) (T : Top p loose mean mg mb h₀) (hk : cs.kind = .function)
    (hne : ∀ q ∈ news, q.1 ≠ hp) (hlen : ys.length < 900) (hlt : y.1.cps.toList < x.1.cps.toList)
    (hd : dp + 4 < recursionLimit) (hu : un + 700 < cLine)
    (ret : ∀ h' tk', Fr h₀ L h' m → News h₀ L h' ((hp, slist (siftup wlt d0 ((y :: ys).set 0 x) 0) n) :: news) → Q (sv y) { s with heap := h', toks := tk' }) :
    wpAny (model prog w) (ktrTop dp un gd cn cs L a ccd cl outer) (call (.ref 59) [.ref hp, sv x]) Q E s := by
  refine wpAny_call ?_
  k_dflt ktr_enter
  rename_i g1 L1 hh1 FG1 F1 N1 B1 X1 T1
  obtain ⟨m1, hm1, F1'⟩ := fr_name F1
  clear F1
  have e1 : m1 (Str.ofString "heap") = some (.ref hp) := by rw [hm1]; rfl
  have e2 : m1 (Str.ofString "item") = some (sv x) := by rw [hm1]; rfl
  clear hm1 N
  have h0 := zz
  have hpos : 0 < (y :: ys).length := by simp
  k_extra "mine steps"
  exact ret _ _ (by k_asm) (news_tl (by k_asm))

end -- WHeapOps
section -- WOctets
def bordersL : List Int := [0, 9, 10, 13, 32, 33, 34, 42, 43, 44, 45, 46, 47, 48, 57, 58, 60, 61, 62, 63, 64, 65, 90, 91, 94, 95, 96, 97, 122, 123, 127, 255]
def figL (f : Nat) : Int := if 63 < f then (f : Int) - 64 else bordersL.getD (f % 32) 0
noncomputable def octL : Nat → Nat → List Int
  | 0, _ => []
  | k + 1, n => if n = 0 then [] else figL (n % 320) :: octL k (n / 320)
theorem octL_succ (k n : Nat) : octL (k + 1) n = if n = 0 then [] else figL (n % 320) :: octL k (n / 320) := rfl
theorem octets_spec {prog : Program} {w : World} {p : Program} {loose : List Str} {mean : ExcName → Option Value} {mg mb : Str → Option Value} {dp un : Nat} {gd : Option (List Code)} {cn : Str} {cs : Scope} {a : Addr} {ccd : Value} {cl : List (Str × Addr)} {outer : List Env} {A₀ : Around} {base h₀ : Heap} {L : Addr} {m : Str → Option Value}
    {news : List (Addr × Obj)} {s : Shared} {Q E : Value → Shared → Prop} {nn : Nat} {k1 : Int} {t1 : Tok}
    (B : Below A₀ base outer h₀) (F : Fr h₀ L s.heap m) (X : (Mine.hd.heap_39 w.params).In h₀) (N : News h₀ L s.heap news) (T : Top p loose mean mg mb h₀) (hk : cs.kind = .function)
    (hk1 : k1 = (nn : Int)) (hn : nn < 320 ^ 4) (hd : dp + 1 < recursionLimit) (hu : un + 500 < cLine)
    (ret : ∀ D vs n h' tk', Fr h₀ L h' m → News h₀ L h' ((D, listOf vs.toArray n) :: news) → IntsAre vs (octL 4 nn) → (∀ q ∈ news, q.1 < D) → Q (.ref D) { s with heap := h', toks := tk' }) :
    wpAny (model prog w) (ktrTop dp un gd cn cs L a ccd cl outer) (call (.ref 142) [.int k1 t1]) Q E s := by
  subst hk1
  refine wpAny_call ?_
  k_dflt ktr_enter
  rename_i g1 L1 hh1 FG1 F1 N1 B1 X1 T1
  obtain ⟨m1, hm1, F1'⟩ := fr_name F1
  clear F1
  have e1 : m1 (Str.ofString "number") = some (.int (nn : Int) t1) := by rw [hm1]; rfl
  clear hm1 N
  generalize (s.toks + _) = tk0
  k_extra "mine steps"
  rename_i lb _ lb1 _ _ lo _ lo1 h1 F1 N1
  obtain ⟨bvs, hbv, N1'⟩ : ∃ bvs, IntsAre bvs bordersL ∧ News g1 L1 h1 ((lo, listOf ([] : List Value).toArray 0) :: (lb, listOf bvs.toArray 0) :: news) := ⟨_, by repeat (first | exact IntsAre.nil | refine IntsAre.cons _ _ ?_), N1⟩
  clear N1
  refine whl_inv
    (fun k s' => ∃ j h tk m vs n ns q t, k = j + 1 ∧ s' = { s with heap := h, toks := tk } ∧ Fr g1 L1 h m ∧ News g1 L1 h ((lo, listOf vs.toArray n) :: (lb, listOf bvs.toArray 0) :: news) ∧ m (Str.ofString "borders") = some (.ref lb) ∧ m (Str.ofString "octets") = some (.ref lo) ∧
      m (Str.ofString "number") = some (.int ((q : Nat) : Int) t) ∧ IntsAre vs ns ∧ q < 320 ^ j ∧ ns.length + j ≤ 4 ∧ ns ++ octL j q = octL 4 nn)
    (fun s' => ∃ h tk m vs n, s' = { s with heap := h, toks := tk } ∧ Fr g1 L1 h m ∧ News g1 L1 h ((lo, listOf vs.toArray n) :: (lb, listOf bvs.toArray 0) :: news) ∧ m (Str.ofString "octets") = some (.ref lo) ∧ IntsAre vs (octL 4 nn))
    PassesOwn.leaving 5 ⟨4, h1, _, _, [], 0, [], nn, t1, rfl, rfl, F1, N1', by k_extra "mine look", by k_extra "mine look", by k_extra "mine look", .nil, hn, by simp, by simp⟩ ?_ ?_ ?_
  · clear F1 N1' h1 e1
    rintro s' ⟨h, tk, m, vs, n, rfl, F1, N1, e1, hI⟩
    dsimp only
    k_extra "mine steps"
    exact ret lo vs n _ _ (by k_asm) (news_drop2 (by k_asm)) hI fun q hq => Nat.lt_trans (lb1 q hq) lo1.1
  · rintro s' ⟨j, h, tk, m, vs, n, ns, q, t, hk, _⟩
    omega
  · clear F1 N1' h1 e1
    rintro k s' ⟨j, h, tk, m, vs, n, ns, q, t, hkj, rfl, F1, N1, e1, e2, e3, hI, hq, hl, hr⟩
    obtain rfl : j = k := by omega
    k_extra "mine steps"
    by_cases hz : q = 0
    · subst hz
      refine WhlIf.no (decide_eq_false (by omega)) ⟨h, _, m, vs, n, rfl, F1, N1, e2, ?_⟩
      rw [← hr]
      cases j with
      | zero => simpa [octL] using hI
      | succ i => simpa [octL] using hI
    · refine WhlIf.yes (decide_eq_true (by omega)) ?_
      obtain ⟨i, rfl⟩ : ∃ i, j = i + 1 := ⟨j - 1, by
        cases j with
        | zero => simp at hq; omega
        | succ i => omega⟩
      have hvl := hI.length
      have hfig : Int.fmod (q : Int) 320 = ((q % 320 : Nat) : Int) := by rw [Int.fmod_eq_emod_of_nonneg _ (by omega)]; omega
      have hnum : Int.fdiv (q : Int) 320 = ((q / 320 : Nat) : Int) := by rw [Int.fdiv_eq_ediv_of_nonneg _ (by omega)]; omega
      have hidx : Int.fmod (Int.fmod (q : Int) 320) 32 = ((q % 320 % 32 : Nat) : Int) := by rw [hfig, Int.fmod_eq_emod_of_nonneg _ (by omega)]; omega
      have hb32 : bordersL.length = 32 := rfl
      have hlo : lb ≠ lo := Nat.ne_of_lt lo1.1
      have hq' : q / 320 < 320 ^ i := by
        rw [Nat.pow_succ] at hq
        exact Nat.div_lt_of_lt_mul (by omega)
      have hr' : ns ++ (figL (q % 320) :: octL i (q / 320)) = octL 4 nn := by rw [← hr, octL_succ, if_neg hz]
      have hf1 : 63 < Int.fmod (q : Int) 320 → figL (q % 320) = Int.fmod (q : Int) 320 - 64 := fun h => by rw [hfig] at h ⊢; unfold figL; rw [if_pos (by omega)]
      have hf2 : ¬ 63 < Int.fmod (q : Int) 320 → figL (q % 320) = bordersL.getD (Int.fmod (Int.fmod (q : Int) 320) 32).toNat 0 := fun h => by rw [hidx]; rw [hfig] at h; unfold figL; rw [if_neg (by omega)]; rfl
      k_extra "mine steps"
      all_goals dsimp only [WTurn]
      · refine ⟨i, _, _, _, _, _, ns ++ [figL (q % 320)], q / 320, _, rfl, rfl, by k_asm, by k_asm, by k_extra "mine look", by k_extra "mine look", by rw [← hnum]; k_extra "mine look", by rw [hf1 (by assumption)]; exact intsAre_snoc hI, hq', by simp; omega, by rw [List.append_assoc]; exact hr'⟩
      · refine ⟨i, _, _, _, _, _, ns ++ [figL (q % 320)], q / 320, _, rfl, rfl, by k_asm, by k_asm, by k_extra "mine look", by k_extra "mine look", by rw [← hnum]; k_extra "mine look", by rw [hf2 (by assumption)]; exact intsAre_snoc hI, hq', by simp; omega, by rw [List.append_assoc]; exact hr'⟩

end -- WOctets
section -- WAsIs
def asIs (k : Int) : Bool := (decide (47 < k) && decide (k < 58)) || (decide (64 < k) && decide (k < 91)) || (decide (96 < k) && decide (k < 123)) || decide (k ∈ [(33 : Int), 42, 43, 45, 47])
theorem bool_ret {Q : Value → Shared → Prop} {b b' : Bool} {st : Shared} (h : Q (.bool b') st) (e : b = b') : Q (.bool b) st := e ▸ h
theorem asIs_spec {prog : Program} {w : World} {p : Program} {loose : List Str} {mean : ExcName → Option Value} {mg mb : Str → Option Value} {dp un : Nat} {gd : Option (List Code)} {cn : Str} {cs : Scope} {a : Addr} {ccd : Value} {cl : List (Str × Addr)} {outer : List Env} {A₀ : Around} {base h₀ : Heap} {L : Addr} {m : Str → Option Value}
    {news : List (Addr × Obj)} {s : Shared} {Q E : Value → Shared → Prop} {k1 : Int} {t1 : Tok}
    (B : Below A₀ base outer h₀) (F : Fr h₀ L s.heap m) (X : (Mine.hd.heap_39 w.params).In h₀) (N : News h₀ L s.heap news) (T : Top p loose mean mg mb h₀) (hk : cs.kind = .function)
    (hd : dp + 1 < recursionLimit) (hu : un + 500 < cLine)
    (ret : ∀ h' tk', Fr h₀ L h' m → News h₀ L h' news → Q (.bool (asIs k1)) { s with heap := h', toks := tk' }) :
    wpAny (model prog w) (ktrTop dp un gd cn cs L a ccd cl outer) (call (.ref 149) [.int k1 t1]) Q E s := by
  refine wpAny_call ?_
  k_dflt ktr_enter
  rename_i g1 L1 hh1 FG1 F1 N1 B1 X1 T1
  obtain ⟨m1, hm1, F1'⟩ := fr_name F1
  clear F1
  have e1 : m1 (Str.ofString "octet") = some (.int k1 t1) := by rw [hm1]; rfl
  clear hm1 N
  generalize (s.toks + _) = tk0
  k_extra "mine steps"
  all_goals refine bool_ret (ret _ _ (by k_asm) (by first | k_asm | exact news_tl (by k_asm))) ?_
  all_goals (
    unfold asIs
    rw [Bool.eq_iff_iff]
    simp only [Bool.or_eq_true, Bool.and_eq_true, decide_eq_true_eq, List.any_cons, List.any_nil, Bool.or_false, beq_iff_eq, List.mem_cons, List.not_mem_nil, or_false]
    omega)

end -- WAsIs
section -- WWord
theorem reg5 : True := by
  (k_with "mine call ref" => first | ((k_here; (with_reducible show wpAny _ _ (call (Value.ref 149) [Value.int _ _]) _ _ _); k_dflt (refine' asIs_spec ?zqk1 ?zqk2 ?zqk3 ?zqk4 ?zqk5 ?zqk6 ?zqk7 ?zqk8 ?_; (case zqk1 => k_asm); (case zqk2 => k_asm); (case zqk3 => k_asm); (case zqk4 => k_asm); (case zqk5 => k_asm); (case zqk6 => rfl); (case zqk7 => ktr_room); (case zqk8 => ktr_units); k_whole); intro _ _ _ _; (try k_sweep))) | fail "no")
  trivial
def figS : Str := Str.ofString "0123456789ABCDEF"
def signS (o : Int) : Str := if o = 32 then Str.ofString "_" else if asIs o then ⟨#[o.toNat]⟩ else Str.ofString "=" ++ Txt.item figS (o.fdiv 16) ++ Txt.item figS (o.fmod 16)
theorem str1 (x : String) (h : (Str.ofString x).length = 1) : (Str.ofString x).length = 1 := h
theorem sign_len (o : Int) : (signS o).length ≤ 3 := by
  have i1 : ∀ k, (Txt.item figS k).length ≤ 1 := fun k => Nat.le_refl 1
  unfold signS
  split
  · decide +kernel
  · split
    · exact (by decide : 1 ≤ 3)
    · have e : (Str.ofString "=").length = 1 := by decide +kernel
      have := i1 (o.fdiv 16)
      have := i1 (o.fmod 16)
      rw [Str.length_append, Str.length_append]; omega
def wordS (ns : List Int) (c : Str) : Str := if ns = [] then Str.ofString "" else ns.foldl (fun w o => w ++ signS o) (Str.ofString "=?" ++ c ++ Str.ofString "?q?") ++ Str.ofString "?="
theorem word_spec {prog : Program} {w : World} {p : Program} {loose : List Str} {mean : ExcName → Option Value} {mg mb : Str → Option Value} {dp un : Nat} {gd : Option (List Code)} {cn : Str} {cs : Scope} {a : Addr} {ccd : Value} {cl : List (Str × Addr)} {outer : List Env} {A₀ : Around} {base h₀ : Heap} {L : Addr} {m : Str → Option Value}
    {news : List (Addr × Obj)} {s : Shared} {Q E : Value → Shared → Prop} {D : Addr} {vs : List Value} {n : Nat} {ns : List Int} {c : Str} {t1 : Tok}
    (B : Below A₀ base outer h₀) (F : Fr h₀ L s.heap m) (X : (Mine.hd.heap_39 w.params).In h₀) (N : News h₀ L s.heap news) (T : Top p loose mean mg mb h₀) (hk : cs.kind = .function)
    (hD : (D, listOf vs.toArray n) ∈ news) (hI : IntsAre vs ns) (hns : ∀ o ∈ ns, 0 ≤ o ∧ o < 256) (hl : ns.length ≤ 6) (hc : c.length ≤ 20)
    (hd : dp + 2 < recursionLimit) (hu : un + 600 < cLine)
    (ret : ∀ t h' tk', Fr h₀ L h' m → News h₀ L h' news → Q (.str (wordS ns c) t) { s with heap := h', toks := tk' }) :
    wpAny (model prog w) (ktrTop dp un gd cn cs L a ccd cl outer) (call (.ref 156) [.ref D, .str c t1]) Q E s := by
  refine wpAny_call ?_
  k_dflt ktr_enter
  rename_i g1 L1 hh1 FG1 F1 N1 B1 X1 T1
  obtain ⟨m1, hm1, F1'⟩ := fr_name F1
  clear F1
  have e1 : m1 (Str.ofString "octets") = some (.ref D) := by rw [hm1]; rfl
  have e2 : m1 (Str.ofString "charset") = some (.str c t1) := by rw [hm1]; rfl
  clear hm1 N
  generalize (s.toks + _) = tk0
  k_extra "mine steps"
  · have hz : ns = [] := of_decide_eq_true (by assumption)
    subst hz
    exact ret _ _ _ (by k_asm) (news_tl (by k_asm))
  · have hz : ¬ ns = [] := of_decide_eq_false (by assumption)
    walk_at "mine for"
    k_extra "mine steps"
    (rename Fr _ _ _ _ => F1)
    (rename News _ _ _ _ => N1)
    obtain ⟨NW, hNW, N2⟩ := news_sub (news := news) N1 (fun p hp => .tail _ hp)
    clear N1
    have hw0 : (Str.ofString "=?" ++ c ++ Str.ofString "?q?").length = 5 + c.length := by
      rw [Str.length_append, Str.length_append]
      have e1 : (Str.ofString "=?").length = 2 := by decide +kernel
      have e2 : (Str.ofString "?q?").length = 3 := by decide +kernel
      omega
    refine for_list (fun r m nw => ∃ rs wd t t', nw = NW ∧ IntsAre r rs ∧ (∀ o ∈ rs, 0 ≤ o ∧ o < 256) ∧ m (Str.ofString "word") = some (.str wd t) ∧ m (Str.ofString "figures") = some (.str figS t') ∧ wd.length + 3 * rs.length ≤ 60 ∧
        rs.foldl (fun w o => w ++ signS o) wd = ns.foldl (fun w o => w ++ signS o) (Str.ofString "=?" ++ c ++ Str.ofString "?q?"))
      rfl F1 N2 (hNW _ hD) ⟨ns, _, _, _, rfl, hI, hns, by k_extra "mine look", by k_extra "mine look", by rw [hw0]; omega, rfl⟩ ?_ ?_
    · clear F1 N2
      rintro v r m nw I it h tk ⟨rs, wd, t, t', rfl, hIr, hrs, e1, e2, hwl, hr⟩ hc off F1 N1
      cases hIr with
      | @cons o t0 _ rs' hIr =>
      obtain ⟨ho0, ho1⟩ := hrs o (.head _)
      have hrs' : ∀ o ∈ rs', 0 ≤ o ∧ o < 256 := fun o h => hrs o (.tail _ h)
      simp only [List.length_cons] at hwl
      simp only [List.foldl_cons] at hr
      have hsl := sign_len o
      have hwl' : (wd ++ signS o).length + 3 * rs'.length ≤ 60 := by rw [Str.length_append]; omega
      have s1 : o = 32 → wd ++ signS o = wd ++ Str.ofString "_" := fun h => by unfold signS; rw [if_pos h]
      have s2 : o ≠ 32 → asIs o = true → wd ++ signS o = wd ++ ⟨#[o.toNat]⟩ := fun h h' => by unfold signS; rw [if_neg h, if_pos h']
      have s3 : o ≠ 32 → asIs o = false → wd ++ signS o = wd ++ Str.ofString "=" ++ Txt.item figS (o.fdiv 16) ++ Txt.item figS (o.fmod 16) := fun h h' => by
        unfold signS; rw [if_neg h, if_neg (by rw [h']; exact Bool.false_ne_true), Str.append_assoc, Str.append_assoc, Str.append_assoc]
      k_extra "mine steps"
      · refine unr_next nw (by k_asm) (by k_asm) off ⟨hNW _ hD, rs', wd ++ signS o, _, t', rfl, hIr, hrs', by rw [s1 (by assumption)]; k_extra "mine look", by k_extra "mine look", hwl', hr⟩
      · refine unr_next nw (by k_asm) (by k_asm) off ⟨hNW _ hD, rs', wd ++ signS o, _, t', rfl, hIr, hrs', by rw [s2 (by assumption) (by assumption)]; k_extra "mine look", by k_extra "mine look", hwl', hr⟩
      · refine unr_next nw (by k_asm) (by k_asm) off ⟨hNW _ hD, rs', wd ++ signS o, _, t', rfl, hIr, hrs', by rw [s3 (by assumption) (by assumption)]; k_extra "mine look", by k_extra "mine look", hwl', hr⟩
    · clear F1 N2
      rintro m nw h tk ⟨rs, wd, t, t', rfl, hIr, hrs, e1, e2, hwl, hr⟩ F1 N1
      cases hIr
      dsimp only
      have hw : wordS ns c = wd ++ Str.ofString "?=" := by unfold wordS; rw [if_neg hz, ← hr]; rfl
      rw [hw] at ret
      k_extra "mine steps"
      exact ret _ _ _ (by k_asm) (news_of_sub (by k_asm) hNW)

end -- WWord
section -- WRanks
theorem reg6 : True := by
  (k_with "mine call ref" => first | ((k_here; (with_reducible show wpAny _ _ (call (Value.ref 149) [Value.int _ _]) _ _ _); k_dflt (refine' asIs_spec ?zqk1 ?zqk2 ?zqk3 ?zqk4 ?zqk5 ?zqk6 ?zqk7 ?zqk8 ?_; (case zqk1 => k_asm); (case zqk2 => k_asm); (case zqk3 => k_asm); (case zqk4 => k_asm); (case zqk5 => k_asm); (case zqk6 => rfl); (case zqk7 => ktr_room); (case zqk8 => ktr_units); k_whole); intro _ _ _ _; (try k_sweep))) | fail "no")
  trivial
def rankL (o : Int) : Int := if o = 32 then 256 * 95 else if asIs o then 256 * o else 256 * 61 + o
def ranksL (ns : List Int) (c : Str) : List Int := if ns = [] then [] else c.cps.toList.map (fun (k : Nat) => 256 * (k : Int)) ++ [256 * 63] ++ ns.map rankL ++ [256 * 63]
theorem ranks_spec {prog : Program} {w : World} {p : Program} {loose : List Str} {mean : ExcName → Option Value} {mg mb : Str → Option Value} {dp un : Nat} {gd : Option (List Code)} {cn : Str} {cs : Scope} {a : Addr} {ccd : Value} {cl : List (Str × Addr)} {outer : List Env} {A₀ : Around} {base h₀ : Heap} {L : Addr} {m : Str → Option Value}
    {news : List (Addr × Obj)} {s : Shared} {Q E : Value → Shared → Prop} {D : Addr} {vs : List Value} {n : Nat} {ns : List Int} {c : Str} {t1 : Tok}
    (B : Below A₀ base outer h₀) (F : Fr h₀ L s.heap m) (X : (Mine.hd.heap_39 w.params).In h₀) (N : News h₀ L s.heap news) (T : Top p loose mean mg mb h₀) (hk : cs.kind = .function)
    (hD : (D, listOf vs.toArray n) ∈ news) (hI : IntsAre vs ns) (hns : ∀ o ∈ ns, 0 ≤ o ∧ o < 256) (hl : ns.length ≤ 6) (hc : c.length ≤ 20)
    (hd : dp + 2 < recursionLimit) (hu : un + 600 < cLine)
    (ret : ∀ D' us n' h' tk', Fr h₀ L h' m → News h₀ L h' ((D', listOf us.toArray n') :: news) → IntsAre us (ranksL ns c) → (∀ q ∈ news, q.1 < D') → Q (.ref D') { s with heap := h', toks := tk' }) :
    wpAny (model prog w) (ktrTop dp un gd cn cs L a ccd cl outer) (call (.ref 161) [.ref D, .str c t1]) Q E s := by
  refine wpAny_call ?_
  k_dflt ktr_enter
  rename_i g1 L1 hh1 FG1 F1 N1 B1 X1 T1
  obtain ⟨m1, hm1, F1'⟩ := fr_name F1
  clear F1
  have e1 : m1 (Str.ofString "octets") = some (.ref D) := by rw [hm1]; rfl
  have e2 : m1 (Str.ofString "charset") = some (.str c t1) := by rw [hm1]; rfl
  clear hm1 N
  generalize (s.toks + _) = tk0
  have hc' : c.cps.size ≤ 20 := hc
  k_extra "mine steps"
  · have hz : ns = [] := of_decide_eq_true (by assumption)
    subst hz
    exact ret _ [] _ _ _ (by k_asm) (news_drop2 (by k_asm)) .nil (by k_extra "mine freshL")
  · have hz : ¬ ns = [] := of_decide_eq_false (by assumption)
    (rename Fr _ _ _ _ => F1)
    (rename News _ _ _ _ => N1)
    refine comp_str (y := c) (fun k => 256 * (k : Int)) F1 N1 (fun Q' h => ld F1 e2 h) rfl (by decide) (by decide) rfl (by decide) rfl (by simp [sizeLine]; omega) ?_ ?_ (by intro _; rfl)
    · intro C k u s₃ m₃ E' hns3 hm3 keep3
      have keepg := fun b o (e : g1.get? b = some o) => keep3 b o (F1.keep b o e)
      k_extra "mine steps"
      exact ⟨_, _, rfl, fun _ _ e => e⟩
    · intro D1 us1 n1 h1 tk1 F2 N2 hI2 hne2
      k_extra "mine steps"
      walk_at "mine for"
      k_extra "mine steps"
      (rename Fr _ _ _ _ => F3)
      (rename News _ _ _ _ => N3)
      rename_i DR rv _ hIR lR _
      have hneR : ∀ q ∈ news, q.1 ≠ DR := fun q hq => Nat.ne_of_lt (allLt_mem lR.2.2.2 q hq)
      have N4 : News g1 L1 _ ((DR, listOf rv.toArray 0) :: news) := news_of_sub N3 (fun q hq => by
        rcases List.mem_cons.mp hq with rfl | hq
        · exact .head _
        · exact .tail _ (.tail _ (.tail _ (.tail _ hq))))
      clear N3
      refine for_list (fun r m nw => ∃ rs ps rv n, nw = (DR, listOf rv.toArray n) :: news ∧ IntsAre r rs ∧ (∀ o ∈ rs, 0 ≤ o ∧ o < 256) ∧ m (Str.ofString "ranks") = some (.ref DR) ∧ IntsAre rv ps ∧ ps.length + rs.length ≤ 40 ∧
          ps ++ rs.map rankL = (c.cps.toList.map (fun (k : Nat) => 256 * (k : Int)) ++ [256 * 63]) ++ ns.map rankL)
        rfl F3 N4 (.tail _ hD) ⟨ns, _, _, _, rfl, hI, hns, by k_extra "mine look", hIR, by simp; omega, rfl⟩ ?_ ?_
      · clear F3 N4
        rintro v r m nw I it h tk ⟨rs, ps, rv, n, rfl, hIr, hrs, e1, hIp, hpl, hr⟩ hc off F3 N3
        cases hIr with
        | @cons o t0 _ rs' hIr =>
        obtain ⟨ho0, ho1⟩ := hrs o (.head _)
        have hrs' : ∀ o ∈ rs', 0 ≤ o ∧ o < 256 := fun o h => hrs o (.tail _ h)
        have hID : I ≠ DR := fun e => off _ (.head _) e.symm
        have off' : ∀ (o : Obj), ∀ p ∈ (DR, o) :: news, p.1 ≠ I := fun o p hp => by
          rcases List.mem_cons.mp hp with rfl | hp
          · exact fun e => hID e.symm
          · exact off _ (.tail _ hp)
        simp only [List.length_cons] at hpl
        have hvl := hIp.length
        have hr' : (ps ++ [rankL o]) ++ rs'.map rankL = (c.cps.toList.map (fun (k : Nat) => 256 * (k : Int)) ++ [256 * 63]) ++ ns.map rankL := by rw [← hr]; simp
        have s1 : o = 32 → rankL o = 256 * 95 := fun h => by unfold rankL; rw [if_pos h]
        have s2 : o ≠ 32 → asIs o = true → rankL o = 256 * o := fun h h' => by unfold rankL; rw [if_neg h, if_pos h']
        have s3 : o ≠ 32 → asIs o = false → rankL o = 256 * 61 + o := fun h h' => by unfold rankL; rw [if_neg h, if_neg (by rw [h']; exact Bool.false_ne_true)]
        k_extra "mine steps"
        · refine unr_next _ (by k_asm) (by k_asm) (off' _) ⟨.tail _ hD, rs', ps ++ [rankL o], _, _, rfl, hIr, hrs', by k_extra "mine look", by rw [s1 (by assumption)]; exact intsAre_snoc hIp, by simp; omega, hr'⟩
        · refine unr_next _ (by k_asm) (by k_asm) (off' _) ⟨.tail _ hD, rs', ps ++ [rankL o], _, _, rfl, hIr, hrs', by k_extra "mine look", by rw [s2 (by assumption) (by assumption)]; exact intsAre_snoc hIp, by simp; omega, hr'⟩
        · refine unr_next _ (by k_asm) (by k_asm) (off' _) ⟨.tail _ hD, rs', ps ++ [rankL o], _, _, rfl, hIr, hrs', by k_extra "mine look", by rw [s3 (by assumption) (by assumption)]; exact intsAre_snoc hIp, by simp; omega, hr'⟩
      · clear F3 N4
        rintro m nw h tk ⟨rs, ps, rv, n, rfl, hIr, hrs, e1, hIp, hpl, hr⟩ F3 N3
        cases hIr
        dsimp only
        have hw : ranksL ns c = ps ++ [256 * 63] := by
          unfold ranksL
          rw [if_neg hz, ← hr, List.map_nil, List.append_nil]
        rw [hw] at ret
        k_extra "mine steps"
        exact ret _ _ _ _ _ (by k_asm) (news_drop2 (news_drop2 (by k_asm))) (by assumption) (by k_extra "mine freshL")

end -- WRanks
section -- WTrans
section
variable {prog : Program} {w : World} {A : Around} {E : Value → Shared → Prop} {s : Shared}
open Builtin in
theorem lookup_text {D : Addr} {its : List Value} {c : Nat} {x : Str} {tk : Tok} {Q : Builtin.Str.Mapped → Shared → Prop} (hl : s.heap.IsList D its.toArray) (hx : its[c]? = some (.str x tk)) (hc : c < 2 ^ 62)
    (h : Q (.text x) { s with toks := s.toks + 1 }) : wpAny (model prog w) A (Builtin.Str.tableLookup (.ref D) c) Q E s := by
  unfold Builtin.Str.tableLookup
  refine wpAny_bind (wpAny_attempt ?_)
  refine wpAny_bind (wpAny_mkInt ?_)
  refine wpAny_getItem_list (s := { s with toks := s.toks + 1 }) hl (by omega) (by omega) (by simpa using hx) ?_
  exact wpAny_bind (wpAny_pure (wpAny_bind (wpAny_pure (wpAny_pure h))))
def trL (tx : Nat → Str) (cs : List Nat) : List Nat := cs.flatMap fun c => (tx c).cps.toList
theorem foldl_cps : ∀ (l : List Str) (a : Array Nat), (l.foldl (fun acc p => acc ++ p.cps) a).toList = a.toList ++ l.flatMap fun p => p.cps.toList
  | [], a => by simp
  | p :: l, a => by rw [List.foldl_cons, foldl_cps]; simp
open Builtin in
theorem translate_list {D : Addr} {its : List Value} {x : Str} {t : Tok} {tx : Nat → Str} {R : Result → Shared → Prop} (hl : s.heap.IsList D its.toArray) (hx : ∀ c ∈ x.cps.toList, c < 2 ^ 62 ∧ ∃ tk, its[c]? = some (.str (tx c) tk)) (h0 : 0 < x.length) (hz : ∀ c ∈ x.cps.toList, (tx c).length ≤ 3) (hn : x.length ≤ 100)
    (h : ∀ (y : Str) t' k, y.cps.toList = trL tx x.cps.toList → R (.ok (.ret (.str y t'))) { s with toks := k }) :
    wpAny (model prog w) A (Builtin.«str.translate» ⟨[.str x t, .ref D], []⟩) (fun fin s' => ∃ v, fin = .done (.ret v) ∧ R (.ok (.ret v)) s') E s := by
  have e1 : Builtin.Str.strOneArg "translate" ⟨[.str x t, .ref D], []⟩ = pure (.str x t, x, .ref D) := rfl
  unfold Builtin.«str.translate»
  refine wpAny_bind (wpAny_of_eq e1 ?_)
  dsimp only
  have hne : ¬ ((x.length == 0) = true) := by simp; omega
  rw [if_neg hne]
  refine wpAny_bind (forIn_array_ _ (fun rest b s' => ∃ k pieces total fast known, b = (pieces, total, fast, known, false) ∧ s' = { s with toks := k } ∧ (∀ c ∈ rest, c ∈ x.cps.toList) ∧ total + 3 * rest.length ≤ 3 * x.length ∧
      (∀ c a, known.lookup c = some a → ∃ d, a = some d ∧ tx c = ⟨#[d]⟩) ∧ (pieces.reverse.flatMap fun p => p.cps.toList) ++ trL tx rest = trL tx x.cps.toList) _ ?_ ?_ x.cps _ ⟨s.toks, [], 0, _, [], rfl, rfl, fun _ h => h, by simp [PySem.Str.length], fun _ _ h => by simp at h, by simp⟩)
  · rintro c rest b s' ⟨k, pieces, total, fast, known, rfl, rfl, hr, ht, hk, he⟩
    obtain ⟨hc62, tk, hi⟩ := hx c (hr c (.head _))
    have hzc := hz c (hr c (.head _))
    simp only [List.length_cons] at ht
    have hlong : ¬ (Builtin.Str.tooLong total = true) := by
      unfold Builtin.Str.tooLong; simp [sizeLine]; omega
    have hr' : ∀ c ∈ rest, c ∈ x.cps.toList := fun c h => hr c (.tail _ h)
    have step : ∀ (p : Str), p.cps.toList = (tx c).cps.toList → ((p :: pieces).reverse.flatMap fun p => p.cps.toList) ++ trL tx rest = trL tx x.cps.toList := fun p hp => by
      rw [← he]
      simp [trL, hp]
    have slow : ∀ k, wpAny (model prog w) A (Builtin.Str.tableLookup (.ref D) c >>= fun r => match r with
        | .keep => pure (ForInStep.yield (⟨#[c]⟩ :: pieces, total + 1, false, known, false))
        | .drop => pure (ForInStep.yield (pieces, total, false, known, true))
        | .char d => pure (ForInStep.yield (⟨#[d]⟩ :: pieces, total + 1, false, known, false))
        | .text t => pure (ForInStep.yield (t :: pieces, total + t.length, false, known, false))) (fun r s' => match r with
          | .yield b' => ∃ k pieces total fast known, b' = (pieces, total, fast, known, false) ∧ s' = { s with toks := k } ∧ (∀ c ∈ rest, c ∈ x.cps.toList) ∧ total + 3 * rest.length ≤ 3 * x.length ∧
            (∀ c a, known.lookup c = some a → ∃ d, a = some d ∧ tx c = ⟨#[d]⟩) ∧ (pieces.reverse.flatMap fun p => p.cps.toList) ++ trL tx rest = trL tx x.cps.toList
          | .done _ => False) E { s with toks := k } := fun k =>
      wpAny_bind (lookup_text (s := { s with toks := k }) hl hi hc62 (wpAny_pure ⟨k + 1, _, _, _, _, rfl, rfl, hr', by omega, hk, step _ rfl⟩))
    dsimp only
    rw [if_neg hlong]
    cases fast with
    | false =>
      simp only [Bool.false_eq_true, if_false]
      refine wpAny_mono (slow _) ?_ (fun _ _ h => h)
      intro r s' hr
      cases r with
      | done b => exact hr.elim
      | yield b => exact hr
    | true =>
      simp only [if_true]
      cases hkl : known.lookup c with
      | some a =>
        obtain ⟨d, rfl, hd⟩ := hk c a hkl
        simp only
        refine wpAny_bind (wpAny_pure (wpAny_pure ⟨k, _, _, _, _, rfl, rfl, hr', by omega, hk, step _ (by rw [hd])⟩))
      | none =>
        refine wpAny_bind (lookup_text (s := { s with toks := k }) hl hi hc62 ?_)
        dsimp only
        by_cases h1 : ((tx c).length == 1 && (tx c).cps.all (· < 128)) = true
        · rw [if_pos h1]
          simp only [Bool.and_eq_true, beq_iff_eq] at h1
          obtain ⟨d, hd⟩ : ∃ d, tx c = ⟨#[d]⟩ := by
            have h2 := h1.1
            cases hh : tx c with | mk a =>
            rw [hh] at h2
            have h3 : a.size = 1 := h2
            obtain ⟨d, hd⟩ := Array.size_eq_one_iff.1 h3
            exact ⟨d, by rw [hd]⟩
          refine wpAny_bind (wpAny_pure ?_)
          rw [hd]
          refine wpAny_pure ⟨k + 1, _, _, _, _, rfl, rfl, hr', by omega, ?_, step _ (by rw [hd]; rfl)⟩
          intro c' a hca
          rw [List.lookup_cons] at hca
          by_cases hcc : (c' == c) = true
          · rw [hcc] at hca
            cases hca
            exact ⟨d, rfl, by rw [eq_of_beq hcc]; exact hd⟩
          · rw [Bool.not_eq_true] at hcc
            rw [hcc] at hca
            exact hk _ _ hca
        · rw [if_neg h1]
          refine wpAny_bind (wpAny_pure ?_)
          refine wpAny_bind (wpAny_rule ?_)
          refine wpAny_mono (slow _) ?_ (fun _ _ h => h)
          intro r s' hr
          cases r with
          | done b => exact hr.elim
          | yield b => exact hr
  · rintro b s' ⟨k, pieces, total, fast, known, rfl, rfl, hr, ht, hk, he⟩
    dsimp only
    have hlong : ¬ (Builtin.Str.tooLong total = true) := by
      unfold Builtin.Str.tooLong; simp [sizeLine]; simp at ht; omega
    rw [if_neg hlong]
    have hs : ((pieces.reverse.foldl (fun acc p => acc ++ p.cps) #[] : Array Nat)).toList = trL tx x.cps.toList := by
      rw [foldl_cps, ← he]; simp [trL]
    have hs2 : ∀ (l : List Nat), (∀ c ∈ l, (tx c).length ≤ 3) → (trL tx l).length ≤ 3 * l.length := by
      intro l; induction l with
      | nil => intro _; simp [trL]
      | cons c l ih =>
        intro hl
        have h1 := ih (fun c h => hl c (.tail _ h))
        have h2 := hl c (.head _)
        have h3 : (trL tx (c :: l)).length = (tx c).length + (trL tx l).length := by simp [trL, PySem.Str.length]
        simp only [List.length_cons]
        omega
    have hs3 := hs2 _ hz
    rw [← hs] at hs3
    unfold retStr
    refine wpAny_bind (wpAny_mkStr ?_ ?_)
    · exact wpAny_pure ⟨_, rfl, h _ _ _ hs⟩
    · simp only [PySem.Str.length, Array.length_toList] at hs3 hn ⊢
      unfold sizeLine; omega
end

end -- WTrans
section -- WLatin
open Builtin in
theorem lat_road {id : String} {b : Array UInt8} : _codecs.decodeRoad id b (PySem.Str.ofString "latin1") none [] = (_codecs.runDecoder id _codecs.latin1Decoder none true b 0 [] >>= fun r => mkStr ⟨r.1⟩) := by kernel_rfl
def latS (bs : List UInt8) : Str := ⟨(bs.map UInt8.toNat).toArray⟩
open Builtin in
theorem lat_run (id : String) : ∀ bs : List UInt8, bs.length ≤ 6 → _codecs.runDecoder id _codecs.latin1Decoder none true bs.toArray 0 [] = pure ((latS bs).cps, bs.length)
  | [], _ => by kernel_rfl
  | [_], _ => by kernel_rfl
  | [_, _], _ => by kernel_rfl
  | [_, _, _], _ => by kernel_rfl
  | [_, _, _, _], _ => by kernel_rfl
  | [_, _, _, _, _], _ => by kernel_rfl
  | [_, _, _, _, _, _], _ => by kernel_rfl
  | _ :: _ :: _ :: _ :: _ :: _ :: _ :: _, h => by simp at h
open Builtin in
theorem lat_text {bs : List UInt8} {t t1 t2 : Tok} {d : PySem.Str} (hb : bs.length ≤ 6) :
    Meets («_codecs.decode.text» ⟨[.bytes bs.toArray t, .str (PySem.Str.ofString "latin1") t1, .none, .str d t2], []⟩) (fun _ R s => R (.ok (.ret (.str (latS bs) s.toks))) { s with toks := s.toks + 1 }) := by
  refine .of_wp fun prog w A R s h => ?_
  show wpAny _ _ (Bytes.bytesLike _ (.bytes bs.toArray t) >>= fun r => _) _ _ s
  refine wpAny_bind (wpAny_of_eq KBd.like_eq ?_)
  refine wpAny_bind (wpAny_of_eq KBd.held_eq ?_)
  show wpAny _ _ (_codecs.decodeRoad _ bs.toArray (PySem.Str.ofString "latin1") none [] >>= fun v => _) _ _ s
  rw [lat_road, lat_run _ _ hb]
  refine wpAny_bind (wpAny_bind (wpAny_pure ?_))
  exact wpAny_mkStr (wpAny_pure ⟨_, rfl, h⟩) (by simp only [latS, PySem.Str.length, sizeLine]; simp; omega)
open Builtin in
theorem lat_entry {c : UInt8} {cs : List UInt8} {t t1 : Tok} : «bytes.decode» ⟨[.bytes (c :: cs).toArray t, .str (PySem.Str.ofString "latin1") t1], []⟩ = (mkStr (PySem.Str.ofString "utf-8") >>= fun _ => mkStr (PySem.Str.ofString "latin1") >>= fun e => mkStr (PySem.Str.ofString "bytes.decode") >>= fun d =>
    call (.builtin "_codecs.decode.text") [.bytes (c :: cs).toArray t, e, .none, d] >>= fun v => ret v) := by kernel_rfl
open Builtin in
theorem lat_meets {c : UInt8} {cs : List UInt8} {t t1 : Tok} (hb : (c :: cs).length ≤ 6) :
    Meets («bytes.decode» ⟨[.bytes (c :: cs).toArray t, .str (PySem.Str.ofString "latin1") t1], []⟩) (fun _ R s => ∀ t' k, R (.ok (.ret (.str (latS (c :: cs)) t'))) { s with toks := k }) := by
  refine .of_wp fun prog w A R s h => ?_
  rw [lat_entry]
  refine wpAny_bind (wpAny_mkStr ?_ (by decide))
  refine wpAny_bind (wpAny_mkStr ?_ (by decide))
  refine wpAny_bind (wpAny_mkStr ?_ (by decide))
  exact wpAny_bind (call_function_meets KBd.kind_text KBd.plain_text KBd.entry_text (KBd.args_text _ _ _ _) (lat_text hb) (wpAny_pure ⟨_, rfl, h _ _⟩))
theorem lat_decode {prog : Program} {w : World} {A : Around} {E : Value → Shared → Prop} {s : Shared} {Q : Value → Shared → Prop} {b : Array UInt8} {bs : List UInt8} {c : Str} {t t1 : Tok} (hc : c = PySem.Str.ofString "latin1") (hb : b = bs.toArray) (h0 : bs ≠ []) (h6 : bs.length ≤ 6) (h : ∀ t' k, Q (.str (latS bs) t') { s with toks := k }) :
    wpAny (model prog w) A (call (.builtin "bytes.decode") [.bytes b t, .str c t1]) Q E s := by
  subst hc hb
  cases bs with
  | nil => exact absurd rfl h0
  | cons c cs => exact call_meets FB.slot_bytes_decode (typeIs_bytes _ _ _) FB.entry_bytes_decode (by unfold argsOk; kernel_rfl) (lat_meets h6) h
theorem tr_call {prog : Program} {w : World} {A : Around} {E : Value → Shared → Prop} {s : Shared} {Q : Value → Shared → Prop} {D : Addr} {its : List Value} {x : Str} {t : Tok} {tx : Nat → Str} (hl : s.heap.IsList D its.toArray) (hx : ∀ c ∈ x.cps.toList, c < 2 ^ 62 ∧ ∃ tk, its[c]? = some (.str (tx c) tk)) (h0 : 0 < x.length) (hz : ∀ c ∈ x.cps.toList, (tx c).length ≤ 3) (hn : x.length ≤ 100)
    (h : ∀ (y : Str) t' k, y.cps.toList = trL tx x.cps.toList → Q (.str y t') { s with toks := k }) : wpAny (model prog w) A (call (.builtin "str.translate") [.str x t, .ref D]) Q E s :=
  call_meets F.slot_str_translate (typeIs_str _ _ _) F.entry_str_translate (by unfold argsOk; kernel_rfl)
    (.of_wp (S := fun _ R s => s.heap.IsList D its.toArray ∧ ∀ (y : Str) t' k, y.cps.toList = trL tx x.cps.toList → R (.ok (.ret (.str y t'))) { s with toks := k }) fun _ _ _ _ _ h => translate_list h.1 hx h0 hz hn h.2) ⟨hl, h⟩

end -- WLatin
section -- WMap
theorem map_ok (P : Params) : ∃ o its n, (Mine.hd.heap_39 P).lookup 93 = some o ∧ o.cls = .type "list" ∧ o.data = .seq its n ∧ ∀ c : Nat, c < 256 → ∃ tk, its.toList[c]? = some (.str (signS c) tk) := by
  refine ⟨_, _, _, by k_is, rfl, rfl, ?_⟩
  have key : ∀ (l : List Value), ((List.range 256).all fun c => match l[c]? with | some (.str x _) => decide (x = signS c) | _ => false) = true → ∀ c : Nat, c < 256 → ∃ tk, l[c]? = some (.str (signS c) tk) := by
    intro l h c hc
    have h1 := List.all_eq_true.mp h c (List.mem_range.2 hc)
    split at h1
    · rename_i x tk e
      exact ⟨tk, by rw [e, of_decide_eq_true h1]⟩
    · cases h1
  exact key _ (by decide +kernel)
theorem map_list {P : Params} {h : Heap} (X : (Mine.hd.heap_39 P).In h) : ∃ its : List Value, h.IsList 93 its.toArray ∧ ∀ c : Nat, c < 256 → ∃ tk, its[c]? = some (.str (signS c) tk) := by
  obtain ⟨o, its, n, e1, e2, e3, e4⟩ := map_ok P
  exact ⟨its.toList, ⟨o, X _ _ e1, e2, n, by rw [e3]⟩, e4⟩

end -- WMap
section -- WEncode
theorem truthyB {prog : Program} {w : World} {A : Around} {E : Value → Shared → Prop} {s : Shared} {Q : Bool → Shared → Prop} {ns : List Int} {t : Tok} (hl : ns.length ≤ 6) (h : Q (!decide (ns = [])) { s with toks := s.toks + 1 + 1 }) : wpAny (model prog w) A (truthy (.bytes (byteArr ns) t)) Q E s := by
  refine truthy_bytes (by rw [byteArr_size]; omega) ?_
  rw [byteArr_size]
  cases ns with
  | nil => exact h
  | cons a l => exact h
theorem reg7 : True := by
  (k_with "mine truthy bytes" => first | ((refine truthyB (by assumption) ?_; try dsimp only)) | fail "no")
  trivial
def octT (ns : List Int) : Str := ⟨(ns.map fun o => o.toNat).toArray⟩
theorem latS_oct {ns : List Int} (hns : ∀ o ∈ ns, 0 ≤ o ∧ o < 256) : latS (ns.map fun n => n.toNat.toUInt8) = octT ns := by
  unfold latS octT
  rw [List.map_map]
  congr 2
  apply List.map_congr_left
  intro o ho
  have := hns o ho
  show (o.toNat.toUInt8).toNat = o.toNat
  simp
  omega
theorem dec_ints {prog : Program} {w : World} {A : Around} {E : Value → Shared → Prop} {s : Shared} {Q : Value → Shared → Prop} {ns : List Int} {c : Str} {t t1 : Tok} (hc : c = PySem.Str.ofString "latin1") (hns : ∀ o ∈ ns, 0 ≤ o ∧ o < 256) (h0 : ¬ ns = []) (h6 : ns.length ≤ 6) (h : ∀ t' k, Q (.str (octT ns) t') { s with toks := k }) :
    wpAny (model prog w) A (call (.builtin "bytes.decode") [.bytes (byteArr ns) t, .str c t1]) Q E s :=
  lat_decode hc rfl (by simpa using h0) (by simpa using h6) (by rw [latS_oct hns]; exact h)
theorem tr_ints {prog : Program} {w : World} {A : Around} {E : Value → Shared → Prop} {s : Shared} {Q : Value → Shared → Prop} {ns : List Int} {t : Tok} (X : (Mine.hd.heap_39 w.params).In s.heap) (hns : ∀ o ∈ ns, 0 ≤ o ∧ o < 256) (h0 : ¬ ns = []) (h6 : ns.length ≤ 6)
    (h : ∀ (y : Str) t' k, y.cps.toList = ns.flatMap (fun o => (signS o).cps.toList) → y.length ≤ 18 → Q (.str y t') { s with toks := k }) : wpAny (model prog w) A (call (.builtin "str.translate") [.str (octT ns) t, .ref 93]) Q E s := by
  obtain ⟨its, hl, hi⟩ := map_list X
  have hm : ∀ c ∈ (octT ns).cps.toList, c < 256 := by
    intro c hc
    simp only [octT, List.mem_map] at hc
    obtain ⟨o, ho, rfl⟩ := hc
    have := hns o ho
    omega
  refine tr_call (tx := fun c => signS c) hl (fun c hc => ⟨by have := hm c hc; omega, hi c (hm c hc)⟩) ?_ (fun c _ => sign_len _) ?_ ?_
  · have : ns.length ≠ 0 := fun e => h0 (List.length_eq_zero_iff.1 e)
    simp only [octT, PySem.Str.length, List.size_toArray, List.length_map]; omega
  · simp only [octT, PySem.Str.length, List.size_toArray, List.length_map]; omega
  · intro y t' k hy
    have hy' : y.cps.toList = ns.flatMap (fun o => (signS o).cps.toList) := ?_
    · refine h y t' k hy' ?_
      have h1 : ∀ l : List Int, (l.flatMap (fun o => (signS o).cps.toList)).length ≤ 3 * l.length := by
        intro l; induction l with
        | nil => simp
        | cons o l ih =>
          have := sign_len o
          simp only [List.flatMap_cons, List.length_append, List.length_cons, Array.length_toList]
          simp only [PySem.Str.length] at this
          omega
      have h2 := h1 ns
      rw [← hy', Array.length_toList] at h2
      show y.cps.size ≤ 18
      omega
    rw [hy]
    simp only [octT, trL, List.flatMap_map]
    rw [List.flatMap_def, List.flatMap_def]
    congr 1
    apply List.map_congr_left
    intro o ho
    have e : ((o.toNat : Nat) : Int) = o := Int.toNat_of_nonneg (hns o ho).1
    show (signS ((o.toNat : Nat) : Int)).cps.toList = _
    rw [e]
theorem reg8 : True := by
  (k_with "mine call builtin:bytes.decode" => first | ((k_here; (with_reducible show wpAny _ _ (call (Value.builtin "bytes.decode") [Value.bytes (byteArr _) _, _]) _ _ _); (refine dec_ints rfl (by assumption) (by assumption) (by assumption) ?_); intro _ _)) | fail "no")
  (k_with "mine getMethod str" => first | ((k_here; (with_reducible show wpAny _ _ (getMethod (Value.str _ _) "translate" _) _ _ _); (refine GM.of (.str _ _) (typeIs_str _ _ _) tr_slot tr_type GM.noRef ?_))) | fail "no")
  (k_with "mine call builtin:str.translate" => first | ((k_here; (with_reducible show wpAny _ _ (call (Value.builtin "str.translate") [Value.str (octT _) _, _]) _ _ _); (refine tr_ints (by k_in) (by assumption) (by assumption) (by assumption) ?_); intro _ _ _ _ _)) | fail "no")
  trivial
theorem str_ext {a b : Str} (h : a.cps.toList = b.cps.toList) : a = b := by
  cases a; cases b
  simp only [PySem.Str.mk.injEq]
  exact Array.toList_inj.1 h
theorem str_app (a b : Str) : (a ++ b).cps.toList = a.cps.toList ++ b.cps.toList := by
  show (a.cps ++ b.cps).toList = _
  simp
theorem fold_sign : ∀ (ns : List Int) (w : Str), (ns.foldl (fun w o => w ++ signS o) w).cps.toList = w.cps.toList ++ ns.flatMap (fun o => (signS o).cps.toList)
  | [], w => by simp
  | o :: ns, w => by rw [List.foldl_cons, fold_sign]; simp [str_app]
theorem wordS_of {ns : List Int} {c y : Str} (h0 : ¬ ns = []) (hy : y.cps.toList = ns.flatMap (fun o => (signS o).cps.toList)) : Str.empty ++ Str.ofString "=?" ++ c ++ Str.ofString "?q?" ++ y ++ Str.ofString "?=" = wordS ns c := by
  unfold wordS
  rw [if_neg h0]
  apply str_ext
  have e : Str.empty.cps.toList = [] := rfl
  simp only [str_app, fold_sign, hy, e, List.nil_append, List.append_assoc]
theorem encode_spec {prog : Program} {w : World} {p : Program} {loose : List Str} {mean : ExcName → Option Value} {mg mb : Str → Option Value} {dp un : Nat} {gd : Option (List Code)} {cn : Str} {cs : Scope} {a : Addr} {ccd : Value} {cl : List (Str × Addr)} {outer : List Env} {A₀ : Around} {base h₀ : Heap} {L : Addr} {m : Str → Option Value}
    {news : List (Addr × Obj)} {s : Shared} {Q E : Value → Shared → Prop} {ns : List Int} {t : Tok}
    (B : Below A₀ base outer h₀) (F : Fr h₀ L s.heap m) (X : (Mine.hd.heap_39 w.params).In h₀) (N : News h₀ L s.heap news) (T : Top p loose mean mg mb h₀) (hk : cs.kind = .function)
    (hns : ∀ o ∈ ns, 0 ≤ o ∧ o < 256) (hl : ns.length ≤ 6)
    (hd : dp + 2 < recursionLimit) (hu : un + 600 < cLine)
    (ret : ∀ t h' tk', Fr h₀ L h' m → News h₀ L h' news → Q (.str (wordS ns (Str.ofString "iso-8859-1")) t) { s with heap := h', toks := tk' }) :
    wpAny (model prog w) (ktrTop dp un gd cn cs L a ccd cl outer) (call (.ref 116) [.bytes (byteArr ns) t]) Q E s := by
  refine wpAny_call ?_
  k_dflt (k_extra "mine enter")
  rename_i g1 L1 hh1 FG1 F1 N1 B1 X1 T1
  obtain ⟨m1, hm1, F1'⟩ := fr_name F1
  clear F1
  have e1 : m1 (Str.ofString "header_bytes") = some (.bytes (byteArr ns) t) := by rw [hm1]; rfl
  obtain ⟨t1, e2⟩ : ∃ t1, m1 (Str.ofString "charset") = some (.str (Str.ofString "iso-8859-1") t1) := ⟨_, by rw [hm1]; rfl⟩
  clear hm1 N
  generalize (s.toks + _) = tk0
  k_extra "mine steps"
  · have hz : ns = [] := by assumption
    subst hz
    exact ret _ _ _ (by k_asm) (by k_asm)
  · rw [wordS_of (by assumption) (by assumption)]
    exact ret _ _ _ (by k_asm) (by k_asm)
theorem encode2_spec {prog : Program} {w : World} {p : Program} {loose : List Str} {mean : ExcName → Option Value} {mg mb : Str → Option Value} {dp un : Nat} {gd : Option (List Code)} {cn : Str} {cs : Scope} {a : Addr} {ccd : Value} {cl : List (Str × Addr)} {outer : List Env} {A₀ : Around} {base h₀ : Heap} {L : Addr} {m : Str → Option Value}
    {news : List (Addr × Obj)} {s : Shared} {Q E : Value → Shared → Prop} {ns : List Int} {t t1 : Tok} {c : Str}
    (B : Below A₀ base outer h₀) (F : Fr h₀ L s.heap m) (X : (Mine.hd.heap_39 w.params).In h₀) (N : News h₀ L s.heap news) (T : Top p loose mean mg mb h₀) (hk : cs.kind = .function)
    (hns : ∀ o ∈ ns, 0 ≤ o ∧ o < 256) (hl : ns.length ≤ 6) (hc : c.length ≤ 20)
    (hd : dp + 2 < recursionLimit) (hu : un + 600 < cLine)
    (ret : ∀ t h' tk', Fr h₀ L h' m → News h₀ L h' news → Q (.str (wordS ns c) t) { s with heap := h', toks := tk' }) :
    wpAny (model prog w) (ktrTop dp un gd cn cs L a ccd cl outer) (call (.ref 116) [.bytes (byteArr ns) t, .str c t1]) Q E s := by
  refine wpAny_call ?_
  k_dflt (k_extra "mine enter")
  rename_i g1 L1 hh1 FG1 F1 N1 B1 X1 T1
  obtain ⟨m1, hm1, F1'⟩ := fr_name F1
  clear F1
  have e1 : m1 (Str.ofString "header_bytes") = some (.bytes (byteArr ns) t) := by rw [hm1]; rfl
  have e2 : m1 (Str.ofString "charset") = some (.str c t1) := by rw [hm1]; rfl
  clear hm1 N
  generalize (s.toks + _) = tk0
  k_extra "mine steps"
  · have hz : ns = [] := by assumption
    subst hz
    exact ret _ _ _ (by k_asm) (by k_asm)
  · rw [wordS_of (by assumption) (by assumption)]
    exact ret _ _ _ (by k_asm) (by k_asm)

end -- WEncode
section -- WSre
open Sre
def sreC : Array Nat := #[14, 8, 1, 3, 3, 1, 1, 61, 0, 16, 61, 24, 16, 2, 2, 13, 11, 9, 0, 67043328, 126, 126, 0, 0, 0, 0, 0, 1, 1]
def sreAt (x : Array Nat) (s : Nat) (b : Bool) (sn : Sre.Seen) : Sre.M :=
  { code := sreC, text := x, lim := x.size, start := s, lastStart := x.size, pc := 9, pos := s, handed := s, outermost := b, marks := #[], frames := [{ wait := .nextStart, pc := 9, pos := s, outermost := b }], weight := 1, seen := sn }
theorem runFor_of_some {m : Sre.M} (h : m.outcome.isSome = true) : ∀ n, m.runFor n = m
  | 0 => rfl
  | n + 1 => by unfold Sre.M.runFor; rw [if_pos h]
theorem runFor_add (a : Nat) : ∀ (b : Nat) (m : Sre.M), m.runFor (a + b) = (m.runFor a).runFor b := by
  induction a with
  | zero => intro b m; rw [Nat.zero_add]; rfl
  | succ a ih =>
    intro b m
    rw [Nat.succ_add_eq_add_succ, Nat.add_succ]
    show (if m.outcome.isSome = true then m else (m.step).runFor (a + b)) = (if m.outcome.isSome = true then m else (m.step).runFor a).runFor b
    split
    · next h => rw [runFor_of_some h]
    · exact ih b _
theorem sre_step (x : Array Nat) (s : Nat) (b : Bool) (sn : Sre.Seen) : (sreAt x s b sn).step = if s ≥ x.size then { sreAt x s b (sn.add 16) with answer := some false } else match (Except.ok (x.getD s 0 == 61, sn.add 16) : Except String (Bool × Sre.Seen)) with
    | .error why => ({ sreAt x s b (sn.add 16) with outcome := some (.stuck why) } : Sre.M)
    | .ok (false, seen) => { sreAt x s b seen with answer := some false }
    | .ok (true, seen) => { sreAt x s b seen with pc := 11, pos := s + 1 } := by
  rfl
theorem sre_back (x : Array Nat) (s : Nat) (b : Bool) (sn : Sre.Seen) : ({ sreAt x s b sn with answer := some false } : Sre.M).step = if s < x.size then sreAt x (s + 1) false sn else { sreAt x s b sn with answer := some false, frames := [], weight := 0 } := by
  rfl
theorem sre_ne {x : Array Nat} {s : Nat} {b : Bool} {sn : Sre.Seen} (h : s < x.size) (h1 : x.getD s 0 ≠ 61) : (sreAt x s b sn).runFor 2 = sreAt x (s + 1) false (sn.add 16) := by
  have e0 : (sreAt x s b sn).runFor 2 = ((sreAt x s b sn).step).runFor 1 := rfl
  have e1 : (x.getD s 0 == 61) = false := by simpa using h1
  rw [e0, sre_step, if_neg (Nat.not_le.2 h), e1]
  show (({ sreAt x s b (sn.add 16) with answer := some false } : Sre.M).step) = _
  rw [sre_back, if_pos h]
theorem sre_end {x : Array Nat} {b : Bool} {sn : Sre.Seen} : ((sreAt x x.size b sn).runFor 3).outcome = some .failed := by
  have e0 : (sreAt x x.size b sn).runFor 3 = ((sreAt x x.size b sn).step).runFor 2 := rfl
  rw [e0, sre_step, if_pos (Nat.le_refl _)]
  have e1 : ({ sreAt x x.size b (sn.add 16) with answer := some false } : Sre.M).runFor 2 = (({ sreAt x x.size b (sn.add 16) with answer := some false } : Sre.M).step).runFor 1 := rfl
  rw [e1, sre_back, if_neg (Nat.lt_irrefl _)]
  rfl
def hexOk (c : Nat) : Bool := c < 256 && (sreC.getD (17 + (1 + c / 32)) 0).testBit (c % 32)
theorem sre_rep (x : Array Nat) (s : Nat) (b : Bool) (sn : Sre.Seen) : ({ sreAt x s b sn with pc := 11, pos := s + 1 } : Sre.M).step = (if ((2 : Nat) : Int) > (x.size : Int) - ((s + 1 : Nat) : Int) then ({ sreAt x s b (sn.add 24) with pc := 11, pos := s + 1, answer := some false } : Sre.M) else
    match Sre.run sreC x 15 (min 2 ((x.size : Int) - ((s + 1 : Nat) : Int)).toNat) (s + 1) 0 ((sn.add 24).add 13) with
    | .error why => { sreAt x s b (sn.add 24) with pc := 11, pos := s + 1, outcome := some (.stuck why) }
    | .ok (n, seen) => if n < 2 then { sreAt x s b seen with pc := 11, pos := s + 1, answer := some false } else
       { sreAt x s b seen with pc := 28, pos := s + 1 + n, handed := s + 1 + n, weight := 2, frames := [{ wait := .giveBack, pc := 11, pos := s + 1 + n, outermost := b, count := n, kept := {} }, { wait := .nextStart, pc := 9, pos := s, outermost := b }] }) := by
  rfl
theorem sre_acc (c : Nat) (sn : Sre.Seen) : Sre.accepts sreC 15 c sn = if hexOk c = true then .ok (true, sn.add 9) else .ok (false, (sn.add 9).add 0) := by
  rfl
theorem sre_run2 {x : Array Nat} {p : Nat} {sn : Sre.Seen} (h1 : hexOk (x.getD p 0) = true) (h2 : hexOk (x.getD (p + 1) 0) = true) : ∃ sn', Sre.run sreC x 15 2 p 0 sn = .ok (2, sn') := by
  refine ⟨(sn.add 9).add 9, ?_⟩
  unfold Sre.run
  rw [sre_acc, if_pos h1]
  show (if true = true then Sre.run sreC x 15 1 (p + 1) (0 + 1) (sn.add 9) else pure (0, sn.add 9)) = _
  rw [if_pos rfl]
  unfold Sre.run
  rw [sre_acc, if_pos h2]
  rfl
theorem sre_hit {x : Array Nat} {s : Nat} {b : Bool} {sn : Sre.Seen} (h : s + 2 < x.size) (h0 : x.getD s 0 = 61) (h1 : hexOk (x.getD (s + 1) 0) = true) (h2 : hexOk (x.getD (s + 2) 0) = true) :
    ∃ m, (sreAt x s b sn).runFor 6 = m ∧ m.outcome = some .matched ∧ m.start = s ∧ m.handed = s + 3 ∧ m.lastindex = -1 := by
  have e0 : (sreAt x s b sn).runFor 6 = ((sreAt x s b sn).step).runFor 5 := rfl
  have e1 : (x.getD s 0 == 61) = true := by simpa using h0
  rw [e0, sre_step, if_neg (by omega), e1]
  have e2 : ({ sreAt x s b (sn.add 16) with pc := 11, pos := s + 1 } : Sre.M).runFor 5 = (({ sreAt x s b (sn.add 16) with pc := 11, pos := s + 1 } : Sre.M).step).runFor 4 := rfl
  show ∃ m, ({ sreAt x s b (sn.add 16) with pc := 11, pos := s + 1 } : Sre.M).runFor 5 = m ∧ _
  obtain ⟨sn', hr⟩ := sre_run2 (x := x) (p := s + 1) (sn := ((sn.add 16).add 24).add 13) h1 h2
  have e3 : min 2 ((x.size : Int) - ((s + 1 : Nat) : Int)).toNat = 2 := by omega
  rw [e2, sre_rep, if_neg (by omega), e3, hr]
  show ∃ m, ((if 2 < 2 then _ else _ : Sre.M)).runFor 4 = m ∧ _
  rw [if_neg (Nat.lt_irrefl _)]
  cases b <;> (refine ⟨_, rfl, ?_, ?_, ?_, ?_⟩ <;> rfl)
theorem sre_walk {x : Array Nat} : ∀ (k s : Nat) (b : Bool) (sn : Sre.Seen), (∀ i, i < k → s + i < x.size ∧ x.getD (s + i) 0 ≠ 61) → ∃ b' sn', (sreAt x s b sn).runFor (2 * k) = sreAt x (s + k) b' sn'
  | 0, s, b, sn, _ => ⟨b, sn, rfl⟩
  | k + 1, s, b, sn, h => by
    have h0 : s < x.size ∧ x.getD s 0 ≠ 61 := h 0 (by omega)
    obtain ⟨b', sn', e⟩ := sre_walk k (s + 1) false (sn.add 16) (fun i hi => by
      have := h (i + 1) (by omega)
      rw [show s + 1 + i = s + (i + 1) by omega]
      exact this)
    refine ⟨b', sn', ?_⟩
    rw [show 2 * (k + 1) = 2 + 2 * k by omega, runFor_add, sre_ne h0.1 h0.2, e, show s + 1 + k = s + (k + 1) by omega]
theorem sre_start {x : Array Nat} {p : Nat} (h : p + 3 ≤ x.size) : ∃ sn, Sre.forSearch sreC x 0 p x.size false = sreAt x p true sn := by
  refine ⟨({} : Sre.Seen).add 14, ?_⟩
  have : ¬ ((p > x.size || x.size - p < 3) = true) := by simp; omega
  unfold Sre.forSearch
  show (if (p > x.size || x.size - p < 3) = true then _ else _) = _
  rw [if_neg this]
  rfl
theorem sre_short {x : Array Nat} {p : Nat} (h : ¬ p + 3 ≤ x.size) (hp : p ≤ x.size) : ((Sre.forSearch sreC x 0 p x.size false).runFor 1).outcome = some .failed := by
  have : ((p > x.size || x.size - p < 3) = true) := by simp; omega
  unfold Sre.forSearch
  show (Sre.M.runFor 1 (if (p > x.size || x.size - p < 3) = true then _ else _)).outcome = _
  rw [if_pos this]
  rfl
open Builtin.Re in
theorem re_drive {prog : Program} {w : World} {A : Around} {E : Value → Shared → Prop} {s : Shared} {Q : Sre.M → Shared → Prop} : ∀ (turns k : Nat) (m : Sre.M), k ≤ 4 * turns → 0 < turns → (m.runFor k).outcome.isSome = true → Q (m.runFor k) s → wpAny (model prog w) A (reDrive turns m) Q E s
  | 0, _, _, _, h0, _, _ => by omega
  | turns + 1, k, m, hk, _, ho, hQ => by
    unfold reDrive
    show wpAny _ _ (if (m.runFor 4).outcome.isSome = true then pure (m.runFor 4) else _) Q E s
    by_cases h4 : (m.runFor 4).outcome.isSome = true
    · rw [if_pos h4]
      have e : m.runFor 4 = m.runFor k := by
        rcases Nat.le_total k 4 with hl | hl
        · have := runFor_add k (4 - k) m
          rw [runFor_of_some ho, show k + (4 - k) = 4 by omega] at this
          exact this
        · obtain ⟨d, rfl⟩ := Nat.le.dest hl
          rw [runFor_add, runFor_of_some h4]
      rw [e]
      exact wpAny_pure hQ
    · rw [if_neg h4]
      refine wpAny_bind (wpAny_rule ?_)
      have hl : 4 ≤ k := by
        rcases Nat.lt_or_ge k 4 with hl | hl
        · exfalso
          apply h4
          have := runFor_add k (4 - k) m
          rw [runFor_of_some ho, show k + (4 - k) = 4 by omega] at this
          rw [this]; exact ho
        · exact hl
      have e : m.runFor k = (m.runFor 4).runFor (k - 4) := by rw [← runFor_add, show 4 + (k - 4) = k by omega]
      rw [e] at ho hQ
      have ht : 0 < turns := by
        rcases Nat.eq_zero_or_pos turns with rfl | h
        · exfalso
          have : k = 4 := by omega
          subst this
          exact h4 ho
        · exact h
      exact re_drive turns (k - 4) (m.runFor 4) (by omega) ht ho hQ
open Builtin.Re in
theorem re_toEnd {prog : Program} {w : World} {A : Around} {E : Value → Shared → Prop} {s : Shared} {Q : Option Sre.M → Shared → Prop} {k : Nat} {m : Sre.M} (hk : k ≤ 4 * 2 ^ 64)
    (h : ((m.runFor k).outcome = some .matched ∧ Q (some (m.runFor k)) s) ∨ ((m.runFor k).outcome = some .failed ∧ Q none s)) : wpAny (model prog w) A (reRunToEnd m) Q E s := by
  unfold reRunToEnd
  refine wpAny_bind (re_drive (2 ^ 64) k m hk (by decide) (by rcases h with h | h <;> rw [h.1] <;> rfl) ?_)
  refine wpAny_bind (wpAny_forIn_list _ (fun _ _ s' => s' = s) _ ?_ ?_ _ _ rfl)
  · rintro i rest b s' rfl
    split
    · exact wpAny_bind (wpAny_rule (wpAny_pure rfl))
    · exact wpAny_pure rfl
  · rintro b s' rfl
    rcases h with h | h
    · rw [h.1]; exact wpAny_pure h.2
    · rw [h.1]; exact wpAny_pure h.2
open Builtin.Re in
theorem re_found {prog : Program} {w : World} {A : Around} {E : Value → Shared → Prop} {s : Shared} {Q : Option Sre.M → Shared → Prop} {x : Array Nat} {p k : Nat} (hx : x.size < 1000) (hp : ∀ i, i < k → p + i < x.size ∧ x.getD (p + i) 0 ≠ 61) (h3 : p + k + 2 < x.size) (h0 : x.getD (p + k) 0 = 61) (h1 : hexOk (x.getD (p + k + 1) 0) = true) (h2 : hexOk (x.getD (p + k + 2) 0) = true)
    (h : ∀ m : Sre.M, m.start = p + k → m.handed = p + k + 3 → m.lastindex = -1 → Q (some m) s) : wpAny (model prog w) A (reRunToEnd (Sre.forSearch sreC x 0 p x.size false)) Q E s := by
  obtain ⟨sn, e1⟩ := sre_start (x := x) (p := p) (by omega)
  obtain ⟨b', sn', e2⟩ := sre_walk k p true sn hp
  obtain ⟨m, e3, e4, e5, e6, e7⟩ := sre_hit (b := b') (sn := sn') h3 h0 h1 h2
  have e : (Sre.forSearch sreC x 0 p x.size false).runFor (2 * k + 6) = m := by rw [e1, runFor_add, e2, e3]
  refine re_toEnd (k := 2 * k + 6) (by omega) (.inl ?_)
  rw [e]
  exact ⟨e4, h m e5 e6 e7⟩
open Builtin.Re in
theorem re_none {prog : Program} {w : World} {A : Around} {E : Value → Shared → Prop} {s : Shared} {Q : Option Sre.M → Shared → Prop} {x : Array Nat} {p k : Nat} (hx : x.size < 1000) (hp : ∀ i, i < k → p + i < x.size ∧ x.getD (p + i) 0 ≠ 61) (hk : p + k = x.size)
    (h : Q none s) : wpAny (model prog w) A (reRunToEnd (Sre.forSearch sreC x 0 p x.size false)) Q E s := by
  by_cases h3 : p + 3 ≤ x.size
  · obtain ⟨sn, e1⟩ := sre_start h3
    obtain ⟨b', sn', e2⟩ := sre_walk k p true sn hp
    rw [hk] at e2
    refine re_toEnd (k := 2 * k + 3) (by omega) (.inr ⟨?_, h⟩)
    rw [e1, runFor_add, e2]
    exact sre_end
  · exact re_toEnd (k := 1) (by decide) (.inr ⟨sre_short h3 (by omega), h⟩)

end -- WSre
section -- WHex
open PySem.NumText
def numVal (r : int_private% "Numeral") : Option Int := (int_private% "Numeral.casesOn") (motive := fun _ => Option Int) r none (fun _ => none) none (fun i => some i)
theorem numVal_some {r : int_private% "Numeral"} {n : Int} (h : numVal r = some n) : r = (int_private% "Numeral.value") n := by
  cases r with
  | value i => injection h with h; rw [h]
  | _ => cases h
def hexd (k : Nat) : Nat := figS.cps.getD k 0
def hexS (o : Nat) : Str := ⟨#[hexd (o / 16), hexd (o % 16)]⟩
theorem hex_facts : ∀ o : Nat, o < 256 → ((numSeenOf (hexS o)).length ≤ 640 ∧ ((numSeenOf (hexS o)).length == (numTextOf (hexS o)).length) = true) ∧ numVal ((int_private% "readNumeral") 0 16 (numSeenOf (hexS o))) = some (o : Int) := by decide +kernel
theorem wp_hex {M : Model} {A : Around} {E : Value → Shared → Prop} {s : Shared} {Q : Value → Shared → Prop} {v : Value} {text : List Nat} {n : Int}
    (hs : (text.takeWhile (· != 0)).length ≤ 640) (hr : (int_private% "readNumeral") 0 16 (text.takeWhile (· != 0)) = (int_private% "Numeral.value") n)
    (ha : ((text.takeWhile (· != 0)).length == text.length) = true) (h : Q (.int n s.toks) { s with toks := s.toks + 1 }) :
    wpAny M A ((int_private% "intFromText") v text 16) Q E s := by
  obtain ⟨hp, g, d, tk, os⟩ := s
  repeat (any_goals (first
    | assumption
    | (with_reducible refine wpAny_ite_true (decide_eq_true hs) ?_)
    | (with_reducible refine wpAny_ite_true (decide_eq_true ha) ?_)
    | wp_step))
  all_goals (try rw [hr])
  all_goals (try dsimp only)
  repeat (any_goals (first
    | assumption
    | (with_reducible refine wpAny_ite_true (decide_eq_true hs) ?_)
    | (with_reducible refine wpAny_ite_true (decide_eq_true ha) ?_)
    | wp_step))
theorem gives_hex {x : Str} {u v : Tok} {n : Int} (hs : (numSeenOf x).length ≤ 640) (ha : ((numSeenOf x).length == (numTextOf x).length) = true) (hr : (int_private% "readNumeral") 0 16 (numSeenOf x) = (int_private% "Numeral.value") n) : Gives (Builtin.«int.__new__» ⟨[.type "int", .str x u, .int 16 v], []⟩) (.int n) :=
  .of_wp fun M A E s Q h => by
    obtain ⟨hp, g, d, tk, os⟩ := s
    have f1 := F.conv_sub_int
    have f2 := F.madeHere_int
    have f6 : typeOf (.str x u) = pure (.type "str") := rfl
    have hk := KIN.Hid.mk (And.intro hs (And.intro hr ha))
    clear hs hr ha
    repeat (any_goals (first
      | assumption
      | ((with_reducible show wpAny _ _ ((int_private% "intFromText") _ _ _) _ _ _); refine wp_hex hk.out.1 hk.out.2.1 hk.out.2.2 ?_)
      | wp_step))
    all_goals first | exact ⟨_, rfl, h⟩ | skip
theorem call_hex {prog : Program} {w : World} {A : Around} {E : Value → Shared → Prop} {s : Shared} {Q : Value → Shared → Prop} {o : Nat} {u v : Tok} {x : Str} (ho : o < 256) (hx : x = hexS o) (h : Q (.int o s.toks) { s with toks := s.toks + 1 }) : wpAny (model prog w) A (call (.type "int") [.str x u, .int 16 v]) Q E s := by
  subst hx
  obtain ⟨⟨h1, h2⟩, h3⟩ := hex_facts o ho
  exact callType_new F.called_int F.newNe_int (by kernel_rfl) (by kernel_rfl) (fun obj => by unfold argsOk; kernel_rfl) F.entry_int_new (gives_hex h1 h2 (numVal_some h3)).meets (show (Made.int o).post _ s from ⟨rfl, h⟩)

end -- WHex
section -- WUnq
def escS (o : Nat) : Str := ⟨#[61, hexd (o / 16), hexd (o % 16)]⟩
theorem unquote_spec {prog : Program} {w : World} {p : Program} {loose : List Str} {mean : ExcName → Option Value} {mg mb : Str → Option Value} {dp un : Nat} {gd : Option (List Code)} {cn : Str} {cs : Scope} {a : Addr} {ccd : Value} {cl : List (Str × Addr)} {outer : List Env} {A₀ : Around} {base h₀ : Heap} {L : Addr} {m : Str → Option Value}
    {news : List (Addr × Obj)} {s : Shared} {Q E : Value → Shared → Prop} {o : Nat} {t : Tok}
    (B : Below A₀ base outer h₀) (F : Fr h₀ L s.heap m) (X : (Mine.hd.heap_39 w.params).In h₀) (N : News h₀ L s.heap news) (T : Top p loose mean mg mb h₀) (hk : cs.kind = .function)
    (ho : o < 256) (hd : dp + 2 < recursionLimit) (hu : un + 500 < cLine)
    (ret : ∀ t h' tk', Fr h₀ L h' m → News h₀ L h' news → Q (.str ⟨#[o]⟩ t) { s with heap := h', toks := tk' }) :
    wpAny (model prog w) (ktrTop dp un gd cn cs L a ccd cl outer) (call (.ref 108) [.str (escS o) t]) Q E s := by
  refine wpAny_call ?_
  k_dflt ktr_enter
  rename_i g1 L1 hh1 FG1 F1 N1 B1 X1 T1
  obtain ⟨m1, hm1, F1'⟩ := fr_name F1
  clear F1
  have e1 : m1 (Str.ofString "s") = some (.str (escS o) t) := by rw [hm1]; rfl
  clear hm1 N
  generalize (s.toks + _) = tk0
  k_extra "mine steps"
  refine call_hex ho rfl ?_
  k_extra "mine steps"
  exact ret _ _ _ (by k_asm) (by k_asm)

end -- WUnq
section -- WMatch
theorem plainAttrs_match : PlainAttrs "re.Match" :=
  ⟨⟨"object.__getattribute__", by rw [typeLookup_type, builtinLookup_eq_fast]; kernel_rfl, by decide +kernel⟩, by rw [typeLookup_type, builtinLookup_eq_fast]; kernel_rfl⟩
theorem slot_match_group : Slot "re.Match" "group" "re.Match.group" :=
  .of (owner := "re.Match") (n := "group") (by rw [typeLookup_type, builtinLookup_eq_fast]; kernel_rfl) (by decide +kernel) (by decide +kernel) (by decide +kernel)
    (by first | exact .inl (by decide +kernel) | exact .inr (by decide +kernel)) (by rw [isSubtype_type]; kernel_rfl)
theorem type_match_group : typeOf (.builtin "re.Match.group") = pure (.type "method_descriptor") := by show builtinType _ = _; rw [builtinType_eq_fast]; kernel_rfl
theorem entry_match_group : entryFor table "re.Match.group" = some Builtin.«re.Match.group» := entryFor_of_tree (by kernel_rfl)
def matchObj (x : Str) (t : Tok) (Tp : Addr) : Obj := { cls := .type "re.Match", data := .fields #[.str x t, .ref 85, .int 0 0, .int x.length 0, .int (-1) 0, .ref Tp] }
def spanObj (b e : Nat) : Obj := { cls := .type "tuple", data := .seq #[.int b 0, .int e 0] }
open Builtin Builtin.Re in
theorem group_meets {Mo Tp : Addr} {x : Str} {t u : Tok} {b e : Nat} (hsz : (x.cps.extract b e).size ≤ sizeLine) : Meets (Builtin.«re.Match.group» ⟨[.ref Mo, .int 0 u], []⟩) (fun _ R s => s.heap.get? Mo = some (matchObj x t Tp) ∧ s.heap.get? Tp = some (spanObj b e) ∧ ∀ t' k, R (.ok (.ret (.str ⟨x.cps.extract b e⟩ t'))) { s with toks := k }) := by
  refine .of_wp fun prog w A R s h => ?_
  obtain ⟨hM, hT, h⟩ := h
  unfold Builtin.«re.Match.group»
  refine wpAny_bind (wpAny_of_eq (a := ()) rfl ?_)
  dsimp only
  refine wpAny_bind (wpAny_bind (wpAny_fieldsOf hM rfl ?_))
  refine wpAny_bind (wpAny_bind (wpAny_seqItems hT rfl (wpAny_pure (wpAny_pure ?_))))
  refine wpAny_bind (wpAny_of_eq (a := (0 : Nat)) (by kernel_rfl) ?_)
  have hn : ¬ (((b : Int) < 0 || (e : Int) < 0) = true) := by simp
  have ht : (do let (text, kind) ← reTextOf (.str x t); reSlice text kind (b : Int).toNat (e : Int).toNat : Sem Value) = mkStr ⟨x.cps.extract b e⟩ := rfl
  have hg : reGroupText { fields := #[Value.str x t, Value.ref 85, Value.int 0 0, Value.int (x.length) 0, Value.int (-1) 0, Value.ref Tp], spans := Array.map reRawOf ((some #[Value.int b 0, Value.int e 0]).getD #[]) } 0 Value.none
    = (if ((b : Int) < 0 || (e : Int) < 0) = true then pure Value.none else (do let (text, kind) ← reTextOf (.str x t); reSlice text kind (b : Int).toNat (e : Int).toNat)) := by kernel_rfl
  refine wpAny_bind ?_
  rw [hg, if_neg hn, ht]
  exact wpAny_mkStr (wpAny_pure ⟨_, rfl, h _ _⟩) hsz
theorem group_call {prog : Program} {w : World} {A : Around} {E : Value → Shared → Prop} {s : Shared} {Q : Value → Shared → Prop} {h₀ : Heap} {L : Addr} {news : List (Addr × Obj)} {Mo Tp : Addr} {x y : Str} {t u : Tok} {b e : Nat}
    (N : News h₀ L s.heap news) (hM : (Mo, matchObj x t Tp) ∈ news) (hT : (Tp, spanObj b e) ∈ news) (hy : x.cps.extract b e = y.cps) (hsz : y.length ≤ 1000)
    (h : ∀ t' k, Q (.str y t') { s with toks := k }) : wpAny (model prog w) A (call (.builtin "re.Match.group") [.ref Mo, .int 0 u]) Q E s := by
  have hs : (x.cps.extract b e).size ≤ sizeLine := by
    rw [hy]; have : y.cps.size ≤ 1000 := hsz
    unfold sizeLine; omega
  refine call_meets slot_match_group ⟨_, (N _ hM).1, rfl⟩ entry_match_group (by unfold argsOk; kernel_rfl) (group_meets hs) ⟨(N _ hM).1, (N _ hT).1, ?_⟩
  rw [hy]
  exact h
theorem group_meth {M : Model} {A : Around} {E : Value → Shared → Prop} {s : Shared} {pl : Sem Bool} {Q : Value × List Value → Shared → Prop} {h₀ : Heap} {L : Addr} {news : List (Addr × Obj)} {Mo Tp : Addr} {x : Str} {t : Tok}
    (N : News h₀ L s.heap news) (hM : (Mo, matchObj x t Tp) ∈ news) (h : Q (.builtin "re.Match.group", [.ref Mo]) s) : wpAny M A (getMethod (.ref Mo) "group" pl) Q E s :=
  getMethod_builtin ⟨_, (N _ hM).1, rfl⟩ plainAttrs_match slot_match_group type_match_group (fun a e => by cases e; exact ⟨_, (N _ hM).1, rfl⟩) h
theorem reg9 : True := by
  (k_with "mine getMethod ref" => first | ((k_here; (with_reducible show wpAny _ _ (getMethod (Value.ref _) "group" _) _ _ _); k_dflt (refine' group_meth ?zqk1 ?zqk2 ?_; (case zqk1 => k_asm); (case zqk2 => k_extra "mine mem"); k_whole))) | fail "no")
  (k_with "mine call builtin:re.Match.group" => first | ((k_here; k_dflt (refine' group_call ?zqk1 ?zqk2 ?zqk3 ?zqk4 ?zqk5 ?_; (case zqk1 => k_asm); (case zqk2 => k_extra "mine mem"); (case zqk3 => k_extra "mine mem"); (case zqk4 => assumption); (case zqk5 => assumption); k_whole); intro _ _)) | fail "no")
  (k_with "mine call ref" => first | ((k_here; (with_reducible show wpAny _ _ (call (Value.ref 108) _) _ _ _); k_dflt (refine' unquote_spec ?zqk1 ?zqk2 ?zqk3 ?zqk4 ?zqk5 ?zqk6 ?zqk7 ?zqk8 ?zqk9 ?_; (case zqk1 => k_asm); (case zqk2 => k_asm); (case zqk3 => k_asm); (case zqk4 => k_asm); (case zqk5 => k_asm); (case zqk6 => exact rfl); (case zqk7 => assumption); (case zqk8 => ktr_room); (case zqk9 => ktr_room); k_whole); intro _ _ _ _ _; (try k_sweep))) | fail "no")
  trivial
theorem unqMatch_spec {prog : Program} {w : World} {p : Program} {loose : List Str} {mean : ExcName → Option Value} {mg mb : Str → Option Value} {dp un : Nat} {gd : Option (List Code)} {cn : Str} {cs : Scope} {a : Addr} {ccd : Value} {cl : List (Str × Addr)} {outer : List Env} {A₀ : Around} {base h₀ : Heap} {L : Addr} {m : Str → Option Value}
    {news : List (Addr × Obj)} {s : Shared} {Q E : Value → Shared → Prop} {o : Nat} {t : Tok} {Mo Tp : Addr} {x : Str} {b e : Nat}
    (B : Below A₀ base outer h₀) (F : Fr h₀ L s.heap m) (X : (Mine.hd.heap_39 w.params).In h₀) (N : News h₀ L s.heap news) (T : Top p loose mean mg mb h₀) (hk : cs.kind = .function)
    (hM : (Mo, matchObj x t Tp) ∈ news) (hT : (Tp, spanObj b e) ∈ news) (hy : x.cps.extract b e = (escS o).cps)
    (ho : o < 256) (hd : dp + 3 < recursionLimit) (hu : un + 600 < cLine)
    (ret : ∀ t h' tk', Fr h₀ L h' m → News h₀ L h' news → Q (.str ⟨#[o]⟩ t) { s with heap := h', toks := tk' }) :
    wpAny (model prog w) (ktrTop dp un gd cn cs L a ccd cl outer) (call (.ref 128) [.ref Mo]) Q E s := by
  have hz : (escS o).length ≤ 1000 := by show 3 ≤ 1000; decide
  refine wpAny_call ?_
  k_dflt ktr_enter
  rename_i g1 L1 hh1 FG1 F1 N1 B1 X1 T1
  obtain ⟨m1, hm1, F1'⟩ := fr_name F1
  clear F1
  have e1 : m1 (Str.ofString "match") = some (.ref Mo) := by rw [hm1]; rfl
  clear hm1 N
  generalize (s.toks + _) = tk0
  k_extra "mine steps"
  exact ret _ _ _ (by k_asm) (by k_asm)

end -- WMatch
section -- WSub
theorem pat_ok (P : Params) : ∃ vs tp, (Mine.hd.heap_39 P).lookup 85 = some { cls := .type "re.Pattern", data := .fields vs } ∧ (Mine.hd.heap_39 P).lookup 84 = some { cls := .type "tuple", data := .seq tp } ∧ vs.getD 5 .none = .ref 84 ∧ vs.getD 2 .none = .int 0 0 ∧ vs.getD 6 .none = .int 0 0 ∧ (tp.map Builtin.Re.reRawOf).map (·.toNat) = sreC :=
  ⟨_, _, by k_is, by k_is, by kernel_rfl, by kernel_rfl, by kernel_rfl, by kernel_rfl⟩
open Builtin Builtin.Re in
theorem whole_target {M : Model} {A : Around} {E : Value → Shared → Prop} {s : Shared} {P : Params} {x : Str} {t : Tok} {Q : ReTarget → Shared → Prop} (X : (Mine.hd.heap_39 P).In s.heap)
    (h : Q { pattern := .ref 85, string := .str x t, code := sreC, text := x.cps, kind := 0, groups := 0, pos := 0, lim := x.cps.size } s) : wpAny M A (reWholeTarget (.ref 85) (.str x t)) Q E s := by
  obtain ⟨vs, tp, e1, e2, e3, e4, e5, e6⟩ := pat_ok P
  unfold reWholeTarget
  refine wpAny_bind (wpAny_fieldsOf (X _ _ e1) rfl ?_)
  refine wpAny_bind (wpAny_of_eq (a := (x.cps, 0)) rfl ?_)
  dsimp only
  rw [e3, e4, e5]
  show wpAny _ _ (reRawItems (.ref 84) >>= _) _ _ s
  refine wpAny_bind (wpAny_bind (wpAny_seqItems (X _ _ e2) rfl (wpAny_pure (wpAny_pure ?_))))
  show Q { pattern := .ref 85, string := .str x t, code := (tp.map reRawOf).map (·.toNat), text := x.cps, kind := 0, groups := 0, pos := 0, lim := x.cps.size } s
  rw [e6]
  exact h
def plainN (o : Nat) : Bool := o == 32 || asIs o
def encN (o : Nat) : List Nat := if plainN o then [o] else [61, hexd (o / 16), hexd (o % 16)]
theorem hex_digits : ∀ o : Nat, o < 256 → hexOk (hexd (o / 16)) = true ∧ hexOk (hexd (o % 16)) = true := by decide +kernel
theorem plain_61 : plainN 61 = false := by decide +kernel
theorem it_pushSeq {prog : Program} {w : World} {A : Around} {E : Value → Shared → Prop} {s : Shared} {h₀ : Heap} {L : Addr} {m : Str → Option Value} {hp : Addr} {xs : List (Str × Tok)} {n : Nat} {x : Str} {tk : Tok} {rest : List (Addr × Obj)} {Q : Unit → Shared → Prop} (F : Fr h₀ L s.heap m) (N : News h₀ L s.heap ((hp, slist xs n) :: rest)) (hne : ∀ q ∈ rest, q.1 ≠ hp) (hfit : xs.length < 1000000)
    (h : ∀ h', Fr h₀ L h' m → News h₀ L h' ((hp, slist (xs ++ [(x, tk)]) (n + 1)) :: rest) → Q () { s with heap := h' }) :
    wpAny (model prog w) A (updateSeq hp (·.push (.str x tk))) Q E s := by
  have z := N (hp, slist xs n) (.head _)
  refine wpAny_updateSeq z.1 rfl (h _ (F.change (Heap.SameBut.update ..) z.2.1 z.2.2) ?_) (by simp [sizeLine]; omega) (by simp [sizeLine]; omega)
  refine ki_turn (pre := []) _ N (fun _ h => nomatch h) hne ?_ ?_
  · simp [sv]
  · simp
theorem join_empty (texts : List Str) : (Txt.join ⟨#[]⟩ texts).cps.toList = texts.flatMap (fun p => p.cps.toList) := by
  have key : ∀ (l : List Str) (a : Array Nat), (l.foldl (fun acc (p : Str) => acc ++ (⟨#[]⟩ : Str).cps ++ p.cps) a).toList = a.toList ++ l.flatMap fun p => p.cps.toList := by
    intro l
    induction l with
    | nil => intro a; simp
    | cons p l ih => intro a; rw [List.foldl_cons, ih]; simp
  cases texts with
  | nil => rfl
  | cons p l =>
    show ((l.foldl (fun acc (p : Str) => acc ++ (⟨#[]⟩ : Str).cps ++ p.cps) p.cps)).toList = _
    rw [key]; simp
theorem entry_sub_loop : entryFor table "re.Pattern.sub.loop" = some Builtin.«re.Pattern.sub.loop» := entryFor_of_tree (by kernel_rfl)
theorem plain_sub_loop : plainId "re.Pattern.sub.loop" = true := by decide +kernel
theorem enc_plain : ∀ (l : List Nat), (∀ o ∈ l, plainN o = true) → l.flatMap encN = l
  | [], _ => rfl
  | o :: l, h => by
    rw [List.flatMap_cons, enc_plain l (fun o ho => h o (.tail _ ho))]
    unfold encN
    rw [if_pos (h o (.head _))]; rfl
theorem split_plain : ∀ (os : List Nat), ∃ pl rest : List Nat, os = pl ++ rest ∧ (∀ o ∈ pl, plainN o = true) ∧ (rest = [] ∨ ∃ o os', rest = o :: os' ∧ plainN o = false)
  | [] => ⟨[], [], rfl, fun _ h => absurd h List.not_mem_nil, .inl rfl⟩
  | o :: os => by
    cases h : plainN o with
    | false => exact ⟨[], o :: os, rfl, fun _ h => absurd h List.not_mem_nil, .inr ⟨o, os, rfl, h⟩⟩
    | true =>
      obtain ⟨pl, rest, e, h1, h2⟩ := split_plain os
      refine ⟨o :: pl, rest, by rw [e]; rfl, ?_, h2⟩
      intro o' ho
      rcases List.mem_cons.mp ho with rfl | ho
      · exact h
      · exact h1 o' ho
theorem getD_of {x : Array Nat} {l r : List Nat} {i : Nat} (h : x.toList = l ++ r) : x.getD (l.length + i) 0 = r.getD i 0 := by
  have : x = (l ++ r).toArray := by rw [← h]
  subst this
  simp [Array.getD_eq_getD_getElem?, List.getD_eq_getElem?_getD, List.getElem?_append_right]
theorem extract_of {x : Array Nat} {l r q : List Nat} (h : x.toList = l ++ r ++ q) : (x.extract l.length (l.length + r.length)).toList = r := by
  have : x = (l ++ r ++ q).toArray := by rw [← h]
  subst this
  simp
open Builtin Builtin.Re in
theorem opt_piece {prog : Program} {w : World} {A : Around} {E : Value → Shared → Prop} {s : Shared} {h₀ : Heap} {L : Addr} {m : Str → Option Value} {P : Addr} {ps : List (Str × Tok)} {n : Nat} {news : List (Addr × Obj)} {h : Heap} {tk : Nat} {x : Array Nat} {b e : Nat} {C : Sem Fin} {Q : Fin → Shared → Prop}
    (F : Fr h₀ L h m) (N : News h₀ L h ((P, slist ps n) :: news)) (hne : ∀ q ∈ news, q.1 ≠ P) (hfit : ps.length < 1000) (hx : x.size ≤ 100)
    (H : ∀ ps' n' h' tk', (ps'.flatMap fun p => p.1.cps.toList) = (ps.flatMap fun p => p.1.cps.toList) ++ (x.extract b e).toList → ps'.length ≤ ps.length + 1 → Fr h₀ L h' m → News h₀ L h' ((P, slist ps' n') :: news) → wpAny (model prog w) A C Q E { s with heap := h', toks := tk' }) :
    wpAny (model prog w) A (if b < e then (reSlice x 0 b e >>= fun v => updateSeq P (·.push v) >>= fun _ => C) else C) Q E { s with heap := h, toks := tk } := by
  by_cases hb : b < e
  · rw [if_pos hb]
    refine wpAny_bind (wpAny_mkStr ?_ ?_)
    · refine wpAny_bind (it_pushSeq (s := { s with heap := h, toks := tk + 1 }) F N hne (by omega) ?_)
      intro h' F' N'
      exact H _ _ h' (tk + 1) (by simp) (by simp) F' N'
    · show (x.extract b e).size ≤ sizeLine
      have : (x.extract b e).size ≤ x.size := by simp; omega
      unfold sizeLine; omega
  · rw [if_neg hb]
    refine H ps n h tk ?_ (by omega) F N
    have : (x.extract b e).toList = [] := by simp; omega
    rw [this, List.append_nil]
theorem join_ok {l : List (Str × Tok)} (h : (l.flatMap fun p => p.1.cps.toList).length ≤ 100) : JoinOk ⟨#[]⟩ (l.map (·.1)) = true := by
  unfold JoinOk
  have e := StrLaws.joinTotal ⟨#[]⟩ (l.map (·.1))
  have e0 : (⟨#[]⟩ : Str).length = 0 := rfl
  have e2 : ((l.map (·.1)).map (fun (p : Str) => p.length)).sum = (l.flatMap fun p => p.1.cps.toList).length := by
    rw [List.length_flatMap, List.map_map]
    congr 1
  rw [e, e0, e2]
  unfold Builtin.Str.tooLong
  simp [sizeLine]
  simp at h
  omega
open Builtin Builtin.Re in
theorem sub_loop {prog : Program} {w : World} {p : Program} {loose : List Str} {mean : ExcName → Option Value} {mg mb : Str → Option Value} {dp un : Nat} {gd : Option (List Code)} {cn : Str} {cs : Scope} {a : Addr} {ccd : Value} {cl : List (Str × Addr)} {outer : List Env} {A₀ : Around} {base h₀ : Heap} {L : Addr} {m : Str → Option Value}
    {news : List (Addr × Obj)} {s : Shared} {R : Result → Shared → Prop} {x : Str} {t : Tok} {P : Addr} {full : List Nat}
    (B : Below A₀ base outer h₀) (X : (Mine.hd.heap_39 w.params).In h₀) (T : Top p loose mean mg mb h₀) (hk : cs.kind = .function)
    (hd : dp + 3 < recursionLimit) (hu : un + 700 < cLine) (hx : x.cps.size ≤ 100) (hfl : full.length ≤ 100) (hne : ∀ q ∈ news, q.1 ≠ P)
    (ret : ∀ (y : Str) t' h' tk', y.cps.toList = full → Fr h₀ L h' m → News h₀ L h' news → R (.ok (.ret (.str y t'))) { s with heap := h', toks := tk' }) :
    ∀ (k : Nat) (os pre : List Nat) (ps : List (Str × Tok)) (c : Int) (n : Nat) (h : Heap) (tk : Nat), os.length < k → x.cps.toList = pre ++ os.flatMap encN → (∀ o ∈ os, o < 256) → (ps.flatMap fun p => p.1.cps.toList) ++ os = full → ps.length + 2 * os.length ≤ 20 →
      Fr h₀ L h m → News h₀ L h ((P, slist ps n) :: news) →
      codeAny (model prog w) (ktrTop dp un gd cn cs L a ccd cl outer) (.builtin "re.Pattern.sub.loop" ⟨[.ref 85, .str x t, .ref 128, .int 1 0, .int 0 0, .int c 0, .int pre.length 0, .int pre.length 0, .bool false, .ref P, .bool false], []⟩) R { s with heap := h, toks := tk } := by
  intro k
  induction k with
  | zero => intro os _ _ _ _ _ _ h; exact absurd h (Nat.not_lt_zero _)
  | succ k ih =>
    intro os pre ps c n h tk hlen he hos hf hn F N
    obtain ⟨pl, rest, rfl, hpl, hrest⟩ := split_plain os
    have hsz : x.cps.size = x.cps.toList.length := by simp
    have hep : (pl ++ rest).flatMap encN = pl ++ rest.flatMap encN := by rw [List.flatMap_append, enc_plain pl hpl]
    rw [hep] at he
    have hp61 : ∀ i, i < pl.length → pre.length + i < x.cps.size ∧ x.cps.getD (pre.length + i) 0 ≠ 61 := by
      intro i hi
      refine ⟨by rw [hsz, he]; simp; omega, ?_⟩
      rw [getD_of he]
      have e1 : (pl ++ rest.flatMap encN).getD i 0 = pl[i] := by simp [List.getD_eq_getElem?_getD, List.getElem?_append_left, hi]
      rw [e1]
      intro e2
      have := hpl pl[i] (List.getElem_mem hi)
      rw [e2, plain_61] at this
      cases this
    refine codeAny_builtin entry_sub_loop ?_
    rw [Around.under_plainId plain_sub_loop _]
    unfold Builtin.«re.Pattern.sub.loop»
    refine wpAny_bind (whole_target (X.keeps F.keep) ?_)
    dsimp only
    rw [if_neg (by decide)]
    refine wpAny_bind ?_
    rw [if_neg (by simp)]
    show wpAny _ _ (reRunToEnd (Sre.forSearch sreC x.cps 0 pre.length x.cps.size false)) _ _ _
    rcases hrest with rfl | ⟨o, os', rfl, ho⟩
    · refine re_none (k := pl.length) (by omega) hp61 (by rw [hsz, he]; simp) ?_
      dsimp only
      refine opt_piece (b := pre.length) (e := x.cps.size) F N hne (by omega) hx ?_
      intro ps' n' h' tk' hps hpn F' N'
      refine wpAny_bind (wpAny_mkStr ?_ (by simp [PySem.Str.length, sizeLine]))
      refine wpAny_bind (wpAny_seqItems (N' _ (.head _)).1 rfl ?_)
      have e0 : (x.cps.extract 0 0) = #[] := by simp
      have ee : (x.cps.extract pre.length x.cps.size).toList = pl := by
        have h1 := extract_of (x := x.cps) (l := pre) (r := pl) (q := []) (by rw [he]; simp)
        have h2 : pre.length + pl.length = x.cps.size := by rw [hsz, he]; simp
        rw [h2] at h1; exact h1
      rw [ee] at hps
      have hfull : (ps'.flatMap fun p => p.1.cps.toList) = full := by rw [hps, ← hf]; simp
      cases ps' with
      | nil =>
        refine wpAny_bind (wpAny_pure (wpAny_pure (ret _ _ _ _ ?_ F' (news_tl N'))))
        rw [e0, ← hfull]; rfl
      | cons y ys =>
        rw [e0]
        refine wpAny_bind (SC.join (l := y :: ys) (it_isList N' (.head _)) rfl ?_ ?_)
        · refine join_ok ?_
          rw [hfull]; exact hfl
        · intro t' k'
          refine wpAny_pure (ret _ _ _ _ ?_ F' (news_tl N'))
          rw [join_empty, ← hfull, List.flatMap_map]
    · have hoe : encN o = [61, hexd (o / 16), hexd (o % 16)] := by unfold encN; rw [ho]; rfl
      have ho256 : o < 256 := hos o (by simp)
      have he2 : x.cps.toList = (pre ++ pl) ++ (encN o ++ os'.flatMap encN) := by rw [he]; simp
      have hg : ∀ i, x.cps.getD (pre.length + pl.length + i) 0 = (encN o ++ os'.flatMap encN).getD i 0 := fun i => by rw [← getD_of he2]; simp
      have hl3 : pre.length + pl.length + 2 < x.cps.size := by rw [hsz, he2, hoe]; simp; omega
      refine re_found (k := pl.length) (by omega) hp61 hl3 ((hg 0).trans (by rw [hoe]; rfl)) ?_ ?_ ?_
      · rw [hg 1, hoe]; exact (hex_digits o ho256).1
      · rw [hg 2, hoe]; exact (hex_digits o ho256).2
      · intro mm hs hh hi
        dsimp only
        rw [if_neg (show ¬ (((1 : Int) == 0) = true) by decide), hs, hh]
        refine opt_piece (b := pre.length) (e := pre.length + pl.length) F N hne (by omega) hx ?_
        intro ps' n' h' tk' hps hpn F' N'
        have ee : (x.cps.extract pre.length (pre.length + pl.length)).toList = pl := extract_of (q := encN o ++ os'.flatMap encN) (by rw [he2])
        rw [ee] at hps
        have hnm : reNewMatch (.ref 85) (.str x t) 0 0 x.cps.size mm = (newTuple [rawInt mm.start, rawInt mm.handed] >>= fun tp => newFields "re.Match" [.str x t, .ref 85, rawInt 0, rawInt x.cps.size, rawInt mm.lastindex, tp]) := rfl
        rw [hnm, hs, hh, hi]
        refine wpAny_bind (wpAny_bind (wpAny_newTuple ?_))
        have F1 := Fr.push F' (spanObj (pre.length + pl.length) (pre.length + pl.length + 3))
        have N1 := News.push F' N' (spanObj (pre.length + pl.length) (pre.length + pl.length + 3))
        refine wpAny_newObj_type ?_
        have F2 := Fr.push F1 (matchObj x t h'.objs.size)
        have N2 := News.push F1 N1 (matchObj x t h'.objs.size)
        refine wpAny_bind (wpAny_holding ?_)
        rw [if_pos (by decide)]
        have hy : x.cps.extract (pre.length + pl.length) (pre.length + pl.length + 3) = (escS o).cps := by
          apply Array.toList_inj.1
          have := extract_of (x := x.cps) (l := pre ++ pl) (r := encN o) (q := os'.flatMap encN) (by rw [he2]; simp)
          rw [hoe] at this
          simp at this
          show _ = [61, hexd (o / 16), hexd (o % 16)]
          simpa using this
        refine unqMatch_spec (un := un + 1) (o := o) B F2 X N2 T hk (.head _) (.tail _ (.head _)) hy ho256 hd (by omega) ?_
        intro t9 h9 tk9 F9 N9
        rw [if_pos (by rfl)]
        have N10 : News h₀ L h9 ((P, slist ps' n') :: news) := fun q hq => N9 q (.tail _ (.tail _ hq))
        refine wpAny_bind (it_pushSeq (s := { s with heap := h9, toks := tk9 }) F9 N10 hne (by omega) ?_)
        intro h11 F11 N11
        refine wpAny_pure ⟨plainId_quiet plain_sub_loop _, ?_⟩
        have hb0 : (pre.length + pl.length + 3 == pre.length + pl.length) = false := by simp
        rw [hb0]
        have hl' : (pre ++ pl ++ encN o).length = pre.length + pl.length + 3 := by rw [hoe]; simp; omega
        have := ih os' (pre ++ pl ++ encN o) _ (c + 1) _ h11 tk9 (by simp at hlen; omega) (by rw [he2]; simp) (fun o h => hos o (by simp [h])) ?_ ?_ F11 N11
        · rw [hl'] at this
          exact this
        · rw [← hf]; simp [hps]
        · simp at hn ⊢; omega

end -- WSub
section -- WSubCall
theorem plainAttrs_pat : PlainAttrs "re.Pattern" :=
  ⟨⟨"object.__getattribute__", by rw [typeLookup_type, builtinLookup_eq_fast]; kernel_rfl, by decide +kernel⟩, by rw [typeLookup_type, builtinLookup_eq_fast]; kernel_rfl⟩
theorem slot_pat_sub : Slot "re.Pattern" "sub" "re.Pattern.sub" :=
  .of (owner := "re.Pattern") (n := "sub") (by rw [typeLookup_type, builtinLookup_eq_fast]; kernel_rfl) (by decide +kernel) (by decide +kernel) (by decide +kernel)
    (by first | exact .inl (by decide +kernel) | exact .inr (by decide +kernel)) (by rw [isSubtype_type]; kernel_rfl)
theorem type_pat_sub : typeOf (.builtin "re.Pattern.sub") = pure (.type "method_descriptor") := by show builtinType _ = _; rw [builtinType_eq_fast]; kernel_rfl
theorem entry_pat_sub : entryFor table "re.Pattern.sub" = some Builtin.«re.Pattern.sub» := entryFor_of_tree (by kernel_rfl)
theorem look_fn_call : typeLookup (.type "function") "__call__" = pure (some (.builtin "function.__call__")) := by rw [typeLookup_type, builtinLookup_eq_fast]; kernel_rfl
theorem sub_str_bytearray : isSubtype (.type "str") (.type "bytearray") = pure false := by rw [isSubtype_type]; kernel_rfl
theorem fn_128 (P : Params) : ∃ o : Obj, (Mine.hd.heap_39 P).lookup 128 = some o ∧ o.cls = .type "function" := ⟨_, by k_is, rfl⟩
open Builtin Builtin.Re in
theorem sub_call {prog : Program} {w : World} {p : Program} {loose : List Str} {mean : ExcName → Option Value} {mg mb : Str → Option Value} {dp un : Nat} {gd : Option (List Code)} {cn : Str} {cs : Scope} {a : Addr} {ccd : Value} {cl : List (Str × Addr)} {outer : List Env} {A₀ : Around} {base h₀ : Heap} {L : Addr} {m : Str → Option Value}
    {news : List (Addr × Obj)} {s : Shared} {Q E : Value → Shared → Prop} {x : Str} {t : Tok} {full : List Nat}
    (B : Below A₀ base outer h₀) (F : Fr h₀ L s.heap m) (X : (Mine.hd.heap_39 w.params).In h₀) (N : News h₀ L s.heap news) (T : Top p loose mean mg mb h₀) (hk : cs.kind = .function)
    (hd : dp + 3 < recursionLimit) (hu : un + 700 < cLine) (hx : x.cps.toList = full.flatMap encN) (hf : ∀ o ∈ full, o < 256) (hl : full.length ≤ 6)
    (ret : ∀ (y : Str) t' h' tk', y.cps.toList = full → Fr h₀ L h' m → News h₀ L h' news → Q (.str y t') { s with heap := h', toks := tk' }) :
    wpAny (model prog w) (ktrTop dp un gd cn cs L a ccd cl outer) (call (.builtin "re.Pattern.sub") [.ref 85, .ref 128, .str x t]) Q E s := by
  obtain ⟨vs, tp, p1, p2, p3, p4, p5, p6⟩ := pat_ok w.params
  obtain ⟨of, f1, f2⟩ := fn_128 w.params
  have XS : (Mine.hd.heap_39 w.params).In s.heap := X.keeps F.keep
  have henc : ∀ l : List Nat, (l.flatMap encN).length ≤ 3 * l.length := by
    intro l; induction l with
    | nil => simp
    | cons o l ih =>
      have : (encN o).length ≤ 3 := by unfold encN; split <;> simp
      simp only [List.flatMap_cons, List.length_append, List.length_cons]; omega
  have hxs : x.cps.size ≤ 100 := by
    have h1 := henc full
    rw [← hx, Array.length_toList] at h1; omega
  refine wpAny_call (codeAny_call_builtin slot_pat_sub.plain entry_pat_sub (slot_pat_sub.check _ _ _ _ _ _ _ _ ⟨_, XS _ _ p1, rfl⟩ (by unfold argsOk; kernel_rfl) ?_))
  unfold Builtin.«re.Pattern.sub» Builtin.Re.reSubstitute
  dsimp only
  refine wpAny_bind (wpAny_of_eq (a := [some (.ref 128), some (.str x t), none]) (by kernel_rfl) ?_)
  dsimp only
  refine wpAny_bind (wpAny_pure ?_)
  refine wpAny_bind (wpAny_specialOf (T := "function") ⟨of, XS _ _ f1, f2⟩ look_fn_call ?_)
  dsimp only [Option.isSome]
  rw [if_pos rfl]
  refine wpAny_bind (wpAny_pure ?_)
  rw [if_pos rfl]
  refine wpAny_bind (wpAny_pure ?_)
  refine wpAny_bind (wpAny_holding (whole_target XS ?_))
  rw [if_pos (by decide)]
  refine wpAny_bind (wpAny_bind (wpAny_isInstance (typeIs_str _ _ _) sub_str_bytearray ?_))
  refine wpAny_pure ?_
  refine wpAny_bind (wpAny_newList ?_)
  refine wpAny_pure ⟨plainId_quiet plain_sub_loop _, ?_⟩
  have N1 := News.push F N (slist [] 0)
  have F1 := Fr.push F (slist [] 0)
  refine sub_loop (full := full) (s := s) (news := news) B X T hk hd hu hxs (by omega) (fun q hq => Nat.ne_of_lt (Heap.lt_size (N q hq).1)) ?_ _ full [] [] 0 0 (s.heap.push (slist [] 0)) s.toks (Nat.lt_succ_self _) hx hf rfl (by simp; omega) F1 N1
  intro y t' h' tk' hy F' N'
  exact ret y t' h' tk' hy F' N'
theorem sub_meth {M : Model} {A : Around} {E : Value → Shared → Prop} {s : Shared} {pl : Sem Bool} {Q : Value × List Value → Shared → Prop} {P : Params} (X : (Mine.hd.heap_39 P).In s.heap) (h : Q (.builtin "re.Pattern.sub", [.ref 85]) s) : wpAny M A (getMethod (.ref 85) "sub" pl) Q E s := by
  obtain ⟨vs, tp, p1, p2, p3, p4, p5, p6⟩ := pat_ok P
  exact getMethod_builtin ⟨_, X _ _ p1, rfl⟩ plainAttrs_pat slot_pat_sub type_pat_sub (fun a e => by cases e; exact ⟨_, X _ _ p1, rfl⟩) h

end -- WSubCall
section -- WDecode
def unUs (k : Nat) : Nat := if k = 95 then 32 else k
theorem unUs_free : ∀ l : List Nat, 95 ∉ l → l.map unUs = l
  | [], _ => rfl
  | k :: r, h => by
    have h1 : ¬ k = 95 := fun e => h (e ▸ List.mem_cons_self ..)
    rw [List.map_cons, unUs_free r (fun m => h (List.mem_cons_of_mem _ m))]
    unfold unUs
    rw [if_neg h1]
theorem map_join : ∀ parts : List Str, (∀ p ∈ parts, 95 ∉ p.cps.toList) → (Str.join ⟨#[95]⟩ parts).cps.toList.map unUs = (Str.join ⟨#[32]⟩ parts).cps.toList
  | [], _ => rfl
  | [p], h => unUs_free _ (h p (List.mem_singleton.mpr rfl))
  | p :: q :: r, h => by
    have ih := map_join (q :: r) fun a ha => h a (List.mem_cons_of_mem _ ha)
    show (p ++ ⟨#[95]⟩ ++ Str.join ⟨#[95]⟩ (q :: r)).cps.toList.map unUs = (p ++ ⟨#[32]⟩ ++ Str.join ⟨#[32]⟩ (q :: r)).cps.toList
    simp only [str_app, List.map_append]
    rw [ih, unUs_free _ (h p (List.mem_cons_self ..))]
    rfl
theorem replace_us (x : Str) : (Txt.replace x (Str.ofString "_") (Str.ofString " ")).cps.toList = x.cps.toList.map unUs := by
  have e1 : Str.ofString "_" = ⟨#[95]⟩ := by decide +kernel
  have e2 : Str.ofString " " = ⟨#[32]⟩ := by decide +kernel
  rw [e1, e2, StrLaws.replace_one, ← map_join _ (StrLaws.split_free x 95), StrLaws.join_split]
theorem sign_enc : ∀ n : Nat, n < 256 → (signS (n : Int)).cps.toList.map unUs = encN n := by decide +kernel
theorem enc_text {x : Str} {full : List Int} (hx : x.cps.toList = full.flatMap (fun o => (signS o).cps.toList)) (hf : ∀ o ∈ full, 0 ≤ o ∧ o < 256) : (Txt.replace x (Str.ofString "_") (Str.ofString " ")).cps.toList = (full.map Int.toNat).flatMap encN := by
  rw [replace_us, hx]
  clear hx
  induction full with
  | nil => rfl
  | cons o l ih =>
    have ho := hf o (.head _)
    have e : ((o.toNat : Nat) : Int) = o := Int.toNat_of_nonneg ho.1
    rw [List.flatMap_cons, List.map_append, ih (fun o h => hf o (.tail _ h)), List.map_cons, List.flatMap_cons, ← sign_enc o.toNat (by omega), e]
theorem reg10 : True := by
  (k_with "mine getMethod ref" => first | ((k_here; (with_reducible show wpAny _ _ (getMethod (Value.ref 85) "sub" _) _ _ _); k_dflt (refine' sub_meth ?zqk1 ?_; (case zqk1 => k_in); k_whole))) | fail "no")
  (k_with "mine call builtin:str.replace" => first | ((k_here; (refine' SC.replace ?zqk1 ?zqk2 ?zqk3 ?zqk4 ?zqk5 ?_; (case zqk1 => exact Nat.ne_of_gt (by assumption)); (case zqk2 => exact Nat.succ_ne_zero _); (case zqk3 => exact Nat.ne_of_lt (Nat.lt_succ_self _)); (case zqk4 => decide +kernel); (case zqk5 => assumption)); intro _ _)) | fail "no")
  (k_with "mine call builtin:re.Pattern.sub" => first | ((k_here; k_dflt (refine' sub_call ?zqk1 ?zqk2 ?zqk3 ?zqk4 ?zqk5 ?zqk6 ?zqk7 ?zqk8 ?zqk9 ?zqk10 ?zqk11 ?_; (case zqk1 => k_asm); (case zqk2 => k_asm); (case zqk3 => k_asm); (case zqk4 => k_asm); (case zqk5 => k_asm); (case zqk6 => exact rfl); (case zqk7 => ktr_room); (case zqk8 => ktr_units); (case zqk9 => assumption); (case zqk10 => assumption); (case zqk11 => assumption); k_whole); intro _ _ _ _ _ _ _; (try k_sweep))) | fail "no")
  trivial
theorem decode_spec {prog : Program} {w : World} {p : Program} {loose : List Str} {mean : ExcName → Option Value} {mg mb : Str → Option Value} {dp un : Nat} {gd : Option (List Code)} {cn : Str} {cs : Scope} {a : Addr} {ccd : Value} {cl : List (Str × Addr)} {outer : List Env} {A₀ : Around} {base h₀ : Heap} {L : Addr} {m : Str → Option Value}
    {news : List (Addr × Obj)} {s : Shared} {Q E : Value → Shared → Prop} {x : Str} {t : Tok} {full : List Int}
    (B : Below A₀ base outer h₀) (F : Fr h₀ L s.heap m) (X : (Mine.hd.heap_39 w.params).In h₀) (N : News h₀ L s.heap news) (T : Top p loose mean mg mb h₀) (hk : cs.kind = .function)
    (hd : dp + 4 < recursionLimit) (hu : un + 800 < cLine) (hx : x.cps.toList = full.flatMap (fun o => (signS o).cps.toList)) (hf : ∀ o ∈ full, 0 ≤ o ∧ o < 256) (hl : full.length ≤ 6)
    (ret : ∀ (y : Str) t' h' tk', y.cps.toList = full.map Int.toNat → Fr h₀ L h' m → News h₀ L h' news → Q (.str y t') { s with heap := h', toks := tk' }) :
    wpAny (model prog w) (ktrTop dp un gd cn cs L a ccd cl outer) (call (.ref 135) [.str x t]) Q E s := by
  refine wpAny_call ?_
  k_dflt ktr_enter
  rename_i g1 L1 hh1 FG1 F1 N1 B1 X1 T1
  obtain ⟨m1, hm1, F1'⟩ := fr_name F1
  clear F1
  have e1 : m1 (Str.ofString "s") = some (.str x t) := by rw [hm1]; rfl
  clear hm1 N
  generalize htk : (s.toks + _) = tk0
  have htk0 : 0 < tk0 := by rw [← htk]; exact Nat.lt_of_lt_of_le (by decide : 0 < 1) (Nat.le_add_left _ _)
  clear htk
  have hen := enc_text hx hf
  have hfn : ∀ o ∈ full.map Int.toNat, o < 256 := by
    intro o ho
    obtain ⟨k, hk, rfl⟩ := List.mem_map.1 ho
    have := hf k hk; omega
  have hln : (full.map Int.toNat).length ≤ 6 := by simpa using hl
  have hxl : x.length + (x.length + 1) * (Str.ofString " ").length ≤ 16777216 := by
    have h1 : ∀ l : List Int, (l.flatMap (fun o => (signS o).cps.toList)).length ≤ 3 * l.length := by
      intro l; induction l with
      | nil => simp
      | cons o l ih =>
        have := sign_len o
        simp only [List.flatMap_cons, List.length_append, List.length_cons, Array.length_toList]
        simp only [PySem.Str.length] at this
        omega
    have h2 := h1 full
    rw [← hx, Array.length_toList] at h2
    have h3 : (Str.ofString " ").length = 1 := by decide +kernel
    have h4 : x.length = x.cps.size := rfl
    rw [h3]; omega
  k_extra "mine steps"
  exact ret _ _ _ _ (by assumption) (by k_asm) (by k_asm)

end -- WDecode
section -- WRev
theorem slot_range_reversed : Slot "range" "__reversed__" "range.__reversed__" :=
  .of (owner := "range") (n := "__reversed__") (by rw [typeLookup_type, builtinLookup_eq_fast]; kernel_rfl) (by decide +kernel) (by decide +kernel) (by decide +kernel)
    (by first | exact .inl (by decide +kernel) | exact .inr (by decide +kernel)) (by rw [isSubtype_type]; kernel_rfl)
theorem entry_range_reversed : entryFor table "range.__reversed__" = some Builtin.«range.__reversed__» := entryFor_of_tree (by kernel_rfl)
theorem sub_ri_reversed : isSubtype (.type "range_iterator") (.type "reversed") = pure false := by rw [isSubtype_type]; kernel_rfl
section
variable {prog : Program} {w : World} {A : Around} {E : Value → Shared → Prop} {s : Shared}
theorem call_range_reversed {r : Addr} {t u v : Tok} {Q : Value → Shared → Prop} (hr : IsRange s.heap r 0 3 1 t u v)
    (h : Q (.ref s.heap.objs.size) { s with heap := s.heap.push (krsIt 2 3 (-1)) }) : wpAny (model prog w) A (call (.builtin "range.__reversed__") [.ref r]) Q E s := by
  refine wpAny_call_entry slot_range_reversed ⟨_, hr, rfl⟩ entry_range_reversed ?_ (by unfold argsOk; kernel_rfl)
  unfold Builtin.«range.__reversed__»
  refine wpAny_bind (wpAny_of_eq (a := Value.ref r) rfl ?_)
  refine wpAny_bind ?_
  have hf : wpAny (model prog w) A.in1 (Builtin.Range.rangeFields (.ref r)) (fun x s' => x = (0, 3, 1) ∧ s' = s) E s := by
    unfold Builtin.Range.rangeFields
    refine wpAny_bind (wpAny_field hr rfl rfl ?_)
    refine wpAny_bind (wpAny_of_eq (a := some 0) rfl ?_)
    refine wpAny_bind (wpAny_field hr rfl rfl ?_)
    refine wpAny_bind (wpAny_of_eq (a := some 3) rfl ?_)
    refine wpAny_bind (wpAny_field hr rfl rfl ?_)
    refine wpAny_bind (wpAny_of_eq (a := some 1) rfl ?_)
    exact wpAny_pure ⟨rfl, rfl⟩
  refine wpAny_mono hf ?_ (fun _ _ h => h)
  rintro x s' ⟨rfl, rfl⟩
  dsimp only
  rw [if_neg (by decide)]
  refine wpAny_bind (wpAny_newObj_type ?_)
  exact wpAny_pure ⟨_, rfl, h⟩
theorem code_rangeRev_new {r : Addr} {t u v : Tok} {Q₁ : Value → Shared → Prop} (hr : IsRange s.heap r 0 3 1 t u v)
    (h : Q₁ (.ref s.heap.objs.size) { s with heap := s.heap.push (krsIt 2 3 (-1)) }) :
    codeAny (model prog w) A (.call (.builtin "reversed.__new__") ⟨[.type "reversed", .ref r], []⟩) (wants Q₁ E) s := by
  refine codeAny_of_tree ?_
  show wpAny _ A.in1 (do checkBuiltinCall "reversed.__new__" ⟨[.type "reversed", .ref r], []⟩; again (.builtin "reversed.__new__" ⟨[.type "reversed", .ref r], []⟩)) _ _ s
  refine wpAny_bind (wpAny_of_eq (F.newCall_reversed_1 _) (wpAny_pure ⟨plainId_quiet F.plain_reversed_new _, codeAny_builtin F.entry_reversed_new ?_⟩))
  rw [Around.under_plainId F.plain_reversed_new _]
  unfold Builtin.«reversed.__new__»
  refine wpAny_bind (wpAny_of_eq (newClass_reversed _) ?_)
  try dsimp only
  refine wpAny_bind (wpAny_of_eq (a := ()) (by first | rfl | kernel_rfl) ?_)
  refine wpAny_bind (wpAny_of_eq (a := ()) (by first | rfl | kernel_rfl) ?_)
  try dsimp only
  refine wpAny_bind (wpAny_specialOf (T := "range") ⟨_, hr, rfl⟩ slot_range_reversed.lookup ?_)
  try dsimp only
  refine wpAny_bind (wpAny_of_eq (slot_range_reversed.bind _) ?_)
  try dsimp only
  first
  | rw [if_neg (show ¬ ((Value.builtin "range.__reversed__" == Value.none) = true) from Bool.false_ne_true)]
  | (show wpAny _ _ (if (Value.builtin "range.__reversed__" == Value.none) = true then _ else _) _ _ _; rw [if_neg (show ¬ ((Value.builtin "range.__reversed__" == Value.none) = true) from Bool.false_ne_true)])
  refine wpAny_bind (wpAny_rule ?_)
  refine wpAny_bind (m := runValue (.call (.builtin "range.__reversed__") ⟨[.ref r], []⟩)) (show wpAny _ _ (call (.builtin "range.__reversed__") [.ref r]) _ _ _ from call_range_reversed hr ?_)
  first
  | exact wpAny_pure h
  | exact wpAny_bind (wpAny_pure (wpAny_pure h))
theorem call_reversed_range {r : Addr} {t u v : Tok} {Q : Value → Shared → Prop} (hr : IsRange s.heap r 0 3 1 t u v)
    (h : Q (.ref s.heap.objs.size) { s with heap := s.heap.push (krsIt 2 3 (-1)) }) : wpAny (model prog w) A (call (.type "reversed") [.ref r]) Q E s := by
  refine callType_other (U := "range_iterator") (Q₁ := fun obj s₁ => obj = .ref s.heap.objs.size ∧ s₁ = { s with heap := s.heap.push (krsIt 2 3 (-1)) }) (by decide +kernel) F.create_reversed ⟨_, _, F.mro_reversed⟩ F.made_reversed sub_ri_reversed (F.typeCall_reversed_1 _) (code_rangeRev_new hr ⟨rfl, rfl⟩) ?_
  rintro obj s₁ ⟨rfl, rfl⟩
  exact ⟨⟨_, Heap.get?_push_size _ rfl, rfl⟩, h⟩
end
section
variable {prog : Program} {w : World} {A : Around} {E : Value → Shared → Prop} {s : Shared} {env : Env} {h₀ : Heap} {x : Str} {body : List Stmt} {Q : Flow → Shared → Prop}
theorem rr_iter {I : Addr} {a c : Int} {n : Nat} {m₀ : Str → Option Value} {news : List (Addr × Obj)}
    (hh : A.handled = none) (F : Fr h₀ env.locals s.heap m₀) (N : News h₀ env.locals s.heap ((I, krsIt a n c) :: news)) (hoff : ∀ p ∈ news, p.1 ≠ I)
    (rest : KrsRest prog w A E h₀ env x body Q s I a c n n 0 m₀ news) :
    wpAny (model prog w) A (pyIter (.ref I)) (fun it s₂ => LoopAtV prog w A h₀ env x body Q E it s₂) E s := by
  have hIx := N _ (List.mem_cons_self ..)
  have W : Walks prog w A I [I] [I] n (fun i v => i < n ∧ ∃ t, v = .int (a + i * c) t)
      (fun i h => IsRangeIter h I (a + (i : Nat) * c) ((n : Int) - (i : Nat)) c) := (Walks.range hh _ a c n).bound
  have st0 : IsRangeIter s.heap I (a + ((0 : Nat) : Int) * c) ((n : Int) - ((0 : Nat) : Int)) c := by
    show s.heap.get? I = some (krsIt (a + ((0 : Nat) : Int) * c) ((n : Int) - ((0 : Nat) : Int)) c)
    have e1 : a + ((0 : Nat) : Int) * c = a := by simp
    have e2 : (n : Int) - ((0 : Nat) : Int) = n := by simp
    rw [e1, e2]; exact hIx.1
  refine W.self 0 _ _ _ st0 ?_
  let J : Nat → (Str → Option Value) → List (Addr × Obj) → Prop := fun i m₁ news₁ => KrsRest prog w A E h₀ env x body Q s I a c n (n - i) i m₁ news₁
  refine ⟨I, _, _, n, _, _, m₀, news, J, rfl, W, ?_, ?_, ?_, st0, F, (fun p hp => N p (List.mem_cons_of_mem _ hp)), rest, ?_, ?_⟩
  · intro hm
    exact hIx.2.1 (List.mem_singleton.mp hm).symm
  · intro b hb
    rw [List.mem_singleton.mp hb]
    exact hIx.2.2
  · intro p hp hI
    exact hoff p hp (List.mem_singleton.mp hI)
  · rintro i v m₁ news₁ s₁ own ⟨hh', tk', rfl⟩ hin ⟨_, t, rfl⟩ hJ hofs hown hget hall hst F₁ N₁
    have hst' : hh'.get? I = some (krsIt (a + ((i + 1 : Nat) : Int) * c) ((n : Int) - ((i + 1 : Nat) : Int)) c) := hst
    have hmem := hall I (List.mem_singleton.mpr rfl) hIx.2.2 _ hst'
    have hkk : n - i = (n - (i + 1)) + 1 := by omega
    have hJ' : KrsRest prog w A E h₀ env x body Q s I a c n ((n - (i + 1)) + 1) i m₁ news₁ := by rw [← hkk]; exact hJ
    have N₂ : News h₀ env.locals hh' ((I, krsIt (a + ((i + 1 : Nat) : Int) * c) ((n : Int) - ((i + 1 : Nat) : Int)) c) :: news₁) := fun p hp => by
      rcases List.mem_cons.mp hp with rfl | hp
      · exact N₁ _ (List.mem_append_left _ hmem)
      · exact N₁ _ (List.mem_append_right _ hp)
    refine wpAny_mono (hJ' t hh' tk' F₁ N₂) (fun f s₂ p => ?_) fun _ _ e => e
    have fin : UnrEnd h₀ env.locals { s with heap := hh', toks := tk' } I (krsIt (a + ((i + 1 : Nat) : Int) * c) ((n : Int) - ((i + 1 : Nat) : Int)) c) (KrsRest prog w A E h₀ env x body Q s I a c n (n - (i + 1)) (i + 1)) s₂ →
        LoopStepU h₀ env.locals [I] own (J (i + 1)) { s with heap := hh', toks := tk' } .next s₂ := by
      rintro ⟨h', tk, m', news', e, F', N', ho, r⟩
      refine ⟨rfl, h', tk, m', news', e, F', fun p hp => ?_, fun p hp hI => ho p hp (List.mem_singleton.mp hI), r⟩
      rcases List.mem_append.mp hp with hp | hp
      · have h1 : p.1 = I := List.mem_singleton.mp (hown p hp)
        have h2 : hh'.get? p.1 = some p.2 := hget p hp
        have h3 : p = (I, krsIt (a + ((i + 1 : Nat) : Int) * c) ((n : Int) - ((i + 1 : Nat) : Int)) c) := by
          rw [h1, hst'] at h2
          exact Prod.ext h1 (Option.some.inj h2).symm
        rw [h3]; exact N' _ (List.mem_cons_self ..)
      · exact N' _ (List.mem_cons_of_mem _ hp)
    cases f with
    | ret v => exact .ret p
    | brk => exact .brk p
    | next => exact .next (fin p)
    | cont => exact .cont (fin p)
  · rintro h' tk m' news' F' N' _ hJ
    have hJ' : KrsRest prog w A E h₀ env x body Q s I a c n 0 n m' news' := by
      have z : n - n = 0 := Nat.sub_self n
      have q : KrsRest prog w A E h₀ env x body Q s I a c n (n - n) n m' news' := hJ
      rw [z] at q; exact q
    exact hJ' h' tk F' N'
theorem rr_reversed {r : Addr} {t u v : Tok} {m : Str → Option Value} {L : Addr} {news : List (Addr × Obj)} {Q : Value → Shared → Prop} {b : Int} (F : Fr h₀ L s.heap m) (N : News h₀ L s.heap news) (hr : IsRange s.heap r 0 b 1 t u v) (hb : b = 3)
    (h : ∀ D h', Fr h₀ L h' m → News h₀ L h' ((D, krsIt 2 3 (-1)) :: news) → (∀ p ∈ news, p.1 < D) → Q (.ref D) { s with heap := h' }) : wpAny (model prog w) A (call (.type "reversed") [.ref r]) Q E s :=
  call_reversed_range (hb ▸ hr) (h _ _ (F.push _) (News.push F N _) fun p hp => Heap.lt_size (N p hp).1)
end

end -- WRev
section -- WHeapify
theorem reg11 : True := by
  (k_with "mine call ref" => first | ((k_here; (with_reducible show wpAny _ _ (call (Value.ref 73) [Value.ref _, Value.int _ _, Value.int _ _]) _ _ _); k_dflt (refine' siftdown_specU ?zqk1 ?zqk2 ?zqk3 ?zqk4 ?zqk5 ?zqk6 ?zqk7 ?zqk8 ?zqk9 ?zqk12 ?zqk13 ?zqk10 ?zqk11 ?_; (case zqk1 => k_asm); (case zqk2 => k_asm); (case zqk3 => k_asm); (case zqk4 => k_asm); (case zqk5 => k_asm); (case zqk6 => rfl); (case zqk7 => k_extra "mine updF"); (case zqk12 => k_extra "mine idx"); (case zqk13 => k_extra "mine idx"); (case zqk8 => k_extra "mine lt"); (case zqk9 => k_extra "mine lt"); (case zqk10 => ktr_room); (case zqk11 => ktr_units); k_whole); intro _ _ _ N'; (try dsimp only at N'); revert N'; intro _; (try k_sweep))) | fail "no")
  (k_with "mine call ref" => first | ((k_here; (with_reducible show wpAny _ _ (call (Value.ref 80) [Value.ref _, Value.int _ _]) _ _ _); k_dflt (refine' siftup_specU ?zqk1 ?zqk2 ?zqk3 ?zqk4 ?zqk5 ?zqk6 ?zqk7 ?zqk8 ?zqk9 ?zqk12 ?zqk10 ?zqk11 ?_; (case zqk1 => k_asm); (case zqk2 => k_asm); (case zqk3 => k_asm); (case zqk4 => k_asm); (case zqk5 => k_asm); (case zqk6 => rfl); (case zqk7 => k_extra "mine updF"); (case zqk12 => k_extra "mine idx"); (case zqk8 => k_extra "mine lt"); (case zqk9 => k_extra "mine lt"); (case zqk10 => ktr_room); (case zqk11 => ktr_units); k_whole); intro _ _ _ N'; (try dsimp only at N'); revert N'; intro _; (try k_sweep))) | fail "no")
  trivial
theorem siftup_len6 {α : Type} {lt : α → α → Bool} {d : α} {xs : List α} {i : Nat} (h : xs.length = 6) (hi : i < 6) : (siftup lt d xs i).length = 6 := by
  rw [(siftup_perm (lt := lt) (d := d) (vs := xs) (p := i) (by omega)).length_eq, h]
theorem news_swap {h₀ h : Heap} {L : Addr} {p q : Addr × Obj} {news : List (Addr × Obj)} (N : News h₀ L h (p :: q :: news)) : News h₀ L h (q :: p :: news) := fun r hr => N r (by
  rcases List.mem_cons.mp hr with rfl | hr
  · exact .tail _ (.head _)
  rcases List.mem_cons.mp hr with rfl | hr
  · exact .head _
  · exact .tail _ (.tail _ hr))
theorem heapify_spec {prog : Program} {w : World} {p : Program} {loose : List Str} {mean : ExcName → Option Value} {mg mb : Str → Option Value} {dp un : Nat} {gd : Option (List Code)} {cn : Str} {cs : Scope} {a : Addr} {ccd : Value} {cl : List (Str × Addr)} {outer : List Env} {A₀ : Around} {base h₀ : Heap} {L : Addr} {m : Str → Option Value}
    {news : List (Addr × Obj)} {s : Shared} {Q E : Value → Shared → Prop} {hp : Addr} {n : Nat} {xs : List (Str × Tok)}
    (B : Below A₀ base outer h₀) (F : Fr h₀ L s.heap m) (X : (Mine.hd.heap_39 w.params).In h₀) (N : News h₀ L s.heap ((hp, slist xs n) :: news)) (T : Top p loose mean mg mb h₀) (hk : cs.kind = .function)
    (hne : ∀ q ∈ news, q.1 ≠ hp) (hlen : xs.length = 6)
    (hd : dp + 4 < recursionLimit) (hu : un + 700 < cLine)
    (ret : ∀ h' tk', Fr h₀ L h' m → News h₀ L h' ((hp, slist (siftup wlt d0 (siftup wlt d0 (siftup wlt d0 xs 2) 1) 0) n) :: news) → Q .none { s with heap := h', toks := tk' }) :
    wpAny (model prog w) (ktrTop dp un gd cn cs L a ccd cl outer) (call (.ref 66) [.ref hp]) Q E s := by
  refine wpAny_call ?_
  k_dflt ktr_enter
  rename_i g1 L1 hh1 FG1 F1 N1 B1 X1 T1
  obtain ⟨m1, hm1, F1'⟩ := fr_name F1
  clear F1
  have e1 : m1 (Str.ofString "x") = some (.ref hp) := by rw [hm1]; rfl
  clear hm1 N
  have off' : ∀ (D : Addr) (o : Obj) (nw : List (Addr × Obj)), (∀ p ∈ ((hp, o) :: nw), p.1 < D) → ∀ o', ∀ p ∈ ((hp, o') :: nw), p.1 ≠ D := fun D o nw l o' p hp => by
    rcases List.mem_cons.mp hp with rfl | hp
    · exact Nat.ne_of_lt (l (_, o) (.head _))
    · exact Nat.ne_of_lt (l p (.tail _ hp))
  k_extra "mine steps"
  walk_at "mine for"
  k_extra "mine steps"
  refine rr_reversed (by k_asm) (by k_asm) (by assumption) (by rw [hlen]; rfl) ?_
  intro D h2 F2 N2 l2
  have off2 := off' D _ _ l2
  clear l2
  dsimp only
  refine rr_iter (a := 2) (c := -1) (n := 3) rfl F2 N2 (off2 _) ?_
  clear F2 N2
  have hneD : ∀ (o : Obj), ∀ q ∈ (D, o) :: news, q.1 ≠ hp := fun o q hq => by
    rcases List.mem_cons.mp hq with rfl | hq
    · exact fun e => off2 (slist xs n) _ (.head _) e.symm
    · exact hne q hq
  refine KrsRest.succ (v := 2) rfl ?_
  intro t3 h3 tk3 F3 N3
  have hne3 := hneD (krsIt (2 + (((3-3) + 1 : Nat) : Int) * -1) (((3 : Nat) : Int) - (((3-3) + 1 : Nat) : Int)) (-1))
  replace N3 := news_swap N3
  have hl3 : (xs).length = 6 := hlen
  k_extra "mine steps"
  (rename Fr _ _ _ _ => F3')
  (rename News _ _ _ _ => N3')
  replace N3' := news_swap N3'
  refine unr_next _ F3' N3' (off2 _) ?_
  clear F3' N3'
  refine KrsRest.succ (v := 1) rfl ?_
  intro t4 h4 tk4 F4 N4
  have hne4 := hneD (krsIt (2 + (((4-3) + 1 : Nat) : Int) * -1) (((3 : Nat) : Int) - (((4-3) + 1 : Nat) : Int)) (-1))
  replace N4 := news_swap N4
  have hl4 : (siftup wlt d0 xs 2).length = 6 := siftup_len6 hlen (by decide)
  k_extra "mine steps"
  (rename Fr _ _ _ _ => F4')
  (rename News _ _ _ _ => N4')
  replace N4' := news_swap N4'
  refine unr_next _ F4' N4' (off2 _) ?_
  clear F4' N4'
  refine KrsRest.succ (v := 0) rfl ?_
  intro t5 h5 tk5 F5 N5
  have hne5 := hneD (krsIt (2 + (((5-3) + 1 : Nat) : Int) * -1) (((3 : Nat) : Int) - (((5-3) + 1 : Nat) : Int)) (-1))
  replace N5 := news_swap N5
  have hl5 : (siftup wlt d0 (siftup wlt d0 xs 2) 1).length = 6 := siftup_len6 (siftup_len6 hlen (by decide)) (by decide)
  k_extra "mine steps"
  (rename Fr _ _ _ _ => F5')
  (rename News _ _ _ _ => N5')
  replace N5' := news_swap N5'
  refine unr_next _ F5' N5' (off2 _) ?_
  clear F5' N5'
  refine KrsRest.zero ?_
  intro h9 tk9 F9 N9
  k_extra "mine steps"
  exact ret _ _ (by k_asm) (by k_asm)

end -- WHeapify
section -- WRaise
theorem pop_empty {prog : Program} {w : World} {A : Around} {E : Value → Shared → Prop} {s : Shared} {l : Addr} {Q : Value → Shared → Prop} (hA : A.handled = none) (hl : s.heap.IsList l #[])
    (hE : ∀ h' tk e, Heap.NewExc s.heap h' e "IndexError" → E (.ref e) { s with heap := h', toks := tk }) : wpAny (model prog w) A (call (.builtin "list.pop") [.ref l]) Q E s := by
  obtain ⟨o, ho, hc, ne, hd⟩ := id hl
  refine wpAny_call_entry PySem.F.slot_list_pop hl.typeIs PySem.F.entry_list_pop ?_ (PySem.F.args_list_pop_1 _)
  unfold Builtin.«list.pop»
  refine wpAny_bind (wpAny_of_eq (a := (Value.ref l, [])) rfl ?_)
  refine wpAny_bind (wpAny_pure ?_)
  dsimp only
  rw [if_neg (by decide)]
  refine wpAny_bind (wpAny_listItems ho hd ?_)
  rw [if_pos (by rfl)]
  first
      | exact wpAny_bind (wpAny_rule (by exact_raiseError plainExc_IndexError hA hE))
      | exact wpAny_bind (wpAny_rule (wpAny_bind (by exact_raiseError plainExc_IndexError hA hE)))
      | exact wpAny_bind (wpAny_bind (wpAny_rule (by exact_raiseError plainExc_IndexError hA hE)))
      | exact wpAny_rule (by exact_raiseError plainExc_IndexError hA hE)
theorem heappop0_spec {prog : Program} {w : World} {p : Program} {loose : List Str} {mean : ExcName → Option Value} {mg mb : Str → Option Value} {dp un : Nat} {gd : Option (List Code)} {cn : Str} {cs : Scope} {a : Addr} {ccd : Value} {cl : List (Str × Addr)} {outer : List Env} {A₀ : Around} {base h₀ : Heap} {L : Addr} {m : Str → Option Value}
    {news : List (Addr × Obj)} {s : Shared} {Q E : Value → Shared → Prop} {hp : Addr} {n : Nat}
    (B : Below A₀ base outer h₀) (F : Fr h₀ L s.heap m) (X : (Mine.hd.heap_39 w.params).In h₀) (N : News h₀ L s.heap news) (T : Top p loose mean mg mb h₀) (hk : cs.kind = .function)
    (hm : (hp, slist [] n) ∈ news) (hd : dp + 4 < recursionLimit) (hu : un + 700 < cLine)
    (err : ∀ g h' tk' e, Fr h₀ L g m → g.UpToSlots h' → RaisedN base (envX cn cs L a ccd cl :: outer) e (.type "IndexError") news h' → E (.ref e) { s with heap := h', toks := tk' }) :
    wpAny (model prog w) (ktrTop dp un gd cn cs L a ccd cl outer) (call (.ref 45) [.ref hp]) Q E s := by
  refine wpAny_call ?_
  k_dflt ktr_enter
  rename_i g1 L1 hh1 FG1 F1 N1 B1 X1 T1
  obtain ⟨m1, hm1, F1'⟩ := fr_name F1
  clear F1
  have e1 : m1 (Str.ofString "heap") = some (.ref hp) := by rw [hm1]; rfl
  clear hm1 N
  generalize (s.toks + _) = tk0
  k_extra "mine steps"
  refine pop_empty rfl (it_isList N1 hm) ?_
  intro h' tk e hx
  show wpAny _ _ (leaving _ _) _ _ _
  refine leave_newK B1 hx F1' N1 ?_
  intro h2 R U
  exact err _ _ _ _ FG1 U R
theorem heapreplace0_spec {prog : Program} {w : World} {p : Program} {loose : List Str} {mean : ExcName → Option Value} {mg mb : Str → Option Value} {dp un : Nat} {gd : Option (List Code)} {cn : Str} {cs : Scope} {a : Addr} {ccd : Value} {cl : List (Str × Addr)} {outer : List Env} {A₀ : Around} {base h₀ : Heap} {L : Addr} {m : Str → Option Value}
    {news : List (Addr × Obj)} {s : Shared} {Q E : Value → Shared → Prop} {hp : Addr} {n : Nat} {v : Value}
    (B : Below A₀ base outer h₀) (F : Fr h₀ L s.heap m) (X : (Mine.hd.heap_39 w.params).In h₀) (N : News h₀ L s.heap news) (T : Top p loose mean mg mb h₀) (hk : cs.kind = .function)
    (hm : (hp, slist [] n) ∈ news) (hd : dp + 4 < recursionLimit) (hu : un + 700 < cLine)
    (err : ∀ g h' tk' e, Fr h₀ L g m → g.UpToSlots h' → RaisedN base (envX cn cs L a ccd cl :: outer) e (.type "IndexError") news h' → E (.ref e) { s with heap := h', toks := tk' }) :
    wpAny (model prog w) (ktrTop dp un gd cn cs L a ccd cl outer) (call (.ref 52) [.ref hp, v]) Q E s := by
  refine wpAny_call ?_
  k_dflt ktr_enter
  rename_i g1 L1 hh1 FG1 F1 N1 B1 X1 T1
  obtain ⟨m1, hm1, F1'⟩ := fr_name F1
  clear F1
  have e1 : m1 (Str.ofString "heap") = some (.ref hp) := by rw [hm1]; rfl
  have e2 : m1 (Str.ofString "item") = some v := by rw [hm1]; rfl
  clear hm1 N
  generalize (s.toks + _) = tk0
  k_extra "mine steps"
  refine item_outK rfl (it_isList N1 hm) (.inr (by decide)) (by decide) (by decide) ?_
  intro h' tk e hx
  show wpAny _ _ (leaving _ _) _ _ _
  refine leave_newK B1 hx F1' N1 ?_
  intro h2 R U
  exact err _ _ _ _ FG1 U R

end -- WRaise
section -- WSort
noncomputable def runT (r : Nat → Nat → Bool) {α : Type} : KasT α → α
  | .ret a => a
  | .ask i j k => runT r (k (r i j))
theorem runT_bind (r : Nat → Nat → Bool) {α β : Type} (f : α → KasT β) : ∀ t : KasT α, runT r (t.bind f) = runT r (f (runT r t))
  | .ret _ => rfl
  | .ask i j k => runT_bind r f (k (r i j))
theorem wp_runT {r : Nat → Nat → Bool} {cmp : Nat → Nat → (Bool → Shared → Prop) → Shared → Prop} {I : Shared → Prop} (hc : ∀ i j C s, I s → (∀ s', I s' → C (r i j) s') → cmp i j C s) {α : Type} {Q : α → Shared → Prop} :
    ∀ (t : KasT α) (s : Shared), I s → (∀ s', I s' → Q (runT r t) s') → t.kasWp cmp Q s
  | .ret a, s, hs, h => h s hs
  | .ask i j k, s, hs, h => hc i j _ s hs fun s' hs' => wp_runT hc (k (r i j)) s' hs' h
section
variable (κ : Nat → Int)
def kr (i j : Nat) : Bool := decide (κ i < κ j)
def atK (p : Array Nat) (k : Nat) : Int := κ (p.getD k 0)
theorem atK_congr {p q : Array Nat} {i j : Nat} (h : p[i]? = q[j]?) : atK κ p i = atK κ q j := by
  unfold atK; rw [Array.getD_eq_getD_getElem?, Array.getD_eq_getD_getElem?, h]
theorem atK_rev {p : Array Nat} {i j : Nat} (hj : j ≤ p.size) (k : Nat) : atK κ (kas_rev p i j) k = if i ≤ k ∧ k < j then atK κ p (i + j - 1 - k) else atK κ p k := by
  have e := getElem?_mirror_all (i := i) hj k
  unfold kas_rev
  by_cases h1 : i ≤ k ∧ k < j
  · rw [if_pos h1] at e ⊢; exact atK_congr κ e
  · rw [if_neg h1] at e ⊢; exact atK_congr κ e
theorem atK_rev_eq {p : Array Nat} {i j : Nat} (hj : j ≤ p.size) (heq : ∀ k, i ≤ k → k < j → atK κ p k = atK κ p (j - 1)) (k : Nat) : atK κ (kas_rev p i j) k = atK κ p k := by
  rw [atK_rev κ hj]
  split
  · rw [heq _ (by omega) (by omega), heq k (by omega) (by omega)]
  · rfl
theorem atK_bubble {p : Array Nat} {src d : Nat} (hs : src < p.size) (hd : d ≤ src) (k : Nat) : atK κ (bubble p src d) k = if k = src - d then atK κ p src else if src - d < k ∧ k ≤ src then atK κ p (k - 1) else atK κ p k := by
  have e := getElem?_bubble hs d hd k
  by_cases h1 : k = src - d
  · rw [if_pos h1] at e ⊢; exact atK_congr κ e
  · rw [if_neg h1] at e ⊢
    by_cases h2 : src - d < k ∧ k ≤ src
    · rw [if_pos h2] at e ⊢; exact atK_congr κ e
    · rw [if_neg h2] at e ⊢; exact atK_congr κ e
theorem rev_size (p : Array Nat) (i j : Nat) : (kas_rev p i j).size = p.size := mirror_size _ _ _ _
theorem rev_perm (p : Array Nat) (i j : Nat) : (kas_rev p i j).Perm p := mirror_perm _ _ _ _
def AscK (p : Array Nat) (n : Nat) : Prop := ∀ k, k + 1 < n → atK κ p k ≤ atK κ p (k + 1)
def DescK (p : Array Nat) (n : Nat) : Prop := ∀ k, k + 1 < n → atK κ p (k + 1) ≤ atK κ p k
theorem AscK.mono {p : Array Nat} {n : Nat} (h : AscK κ p n) : ∀ (d i : Nat), i + d < n → atK κ p i ≤ atK κ p (i + d)
  | 0, i, _ => Int.le_refl _
  | d + 1, i, hi => Int.le_trans (AscK.mono h d i (by omega)) (h (i + d) (by omega))
theorem AscK.le {p : Array Nat} {n i j : Nat} (h : AscK κ p n) (hij : i ≤ j) (hj : j < n) : atK κ p i ≤ atK κ p j := by
  obtain ⟨d, rfl⟩ := Nat.le.dest hij
  exact h.mono κ d i hj
theorem asc_spec (p : Array Nat) : ∀ (f n : Nat), 1 ≤ n → AscK κ p n → n ≤ runT (kr κ) (kas_asc p f n) ∧ runT (kr κ) (kas_asc p f n) ≤ n + f ∧ AscK κ p (runT (kr κ) (kas_asc p f n)) ∧ (runT (kr κ) (kas_asc p f n) < n + f → atK κ p (runT (kr κ) (kas_asc p f n)) < atK κ p (runT (kr κ) (kas_asc p f n) - 1))
  | 0, n, _, h => ⟨Nat.le_refl _, Nat.le_refl _, h, fun hh => absurd hh (Nat.lt_irrefl _)⟩
  | f + 1, n, h1, h => by
    have e : runT (kr κ) (kas_asc p (f + 1) n) = runT (kr κ) (if kr κ (p.getD n 0) (p.getD (n - 1) 0) = true then .ret n else kas_asc p f (n + 1)) := rfl
    rw [e]
    by_cases hc : kr κ (p.getD n 0) (p.getD (n - 1) 0) = true
    · rw [if_pos hc]
      exact ⟨Nat.le_refl _, by show n ≤ _; omega, h, fun _ => of_decide_eq_true hc⟩
    · rw [if_neg hc]
      have hc' : ¬ atK κ p n < atK κ p (n - 1) := fun q => hc (decide_eq_true q)
      have ih := asc_spec p f (n + 1) (by omega) (fun k hk => by
        by_cases hk' : k + 1 < n
        · exact h k hk'
        · have : k = n - 1 := by omega
          subst this
          rw [show n - 1 + 1 = n by omega]
          omega)
      exact ⟨by omega, by omega, ih.2.2.1, fun q => ih.2.2.2 (by omega)⟩
def TailK (p : Array Nat) (n q : Nat) : Prop := ∀ k, n - (q + 1) ≤ k → k < n → atK κ p k = atK κ p (n - 1)
theorem desc_spec : ∀ (f : Nat) (p : Array Nat) (n q : Nat), n + f ≤ p.size → DescK κ p n → q + 1 ≤ n → TailK κ p n q →
    (runT (kr κ) (kas_desc f p n q)).1.Perm p ∧ (runT (kr κ) (kas_desc f p n q)).1.size = p.size ∧ n ≤ (runT (kr κ) (kas_desc f p n q)).2.1 ∧ (runT (kr κ) (kas_desc f p n q)).2.1 ≤ n + f ∧ DescK κ (runT (kr κ) (kas_desc f p n q)).1 (runT (kr κ) (kas_desc f p n q)).2.1 ∧
      (runT (kr κ) (kas_desc f p n q)).2.2 + 1 ≤ (runT (kr κ) (kas_desc f p n q)).2.1 ∧ TailK κ (runT (kr κ) (kas_desc f p n q)).1 (runT (kr κ) (kas_desc f p n q)).2.1 (runT (kr κ) (kas_desc f p n q)).2.2
  | 0, p, n, q, _, hD, hq, hT => ⟨.refl _, rfl, Nat.le_refl _, Nat.le_refl _, hD, hq, hT⟩
  | f + 1, p, n, q, hz, hD, hq, hT => by
    have e : runT (kr κ) (kas_desc (f + 1) p n q) = runT (kr κ) (if kr κ (p.getD n 0) (p.getD (n - 1) 0) = true then (if q > 0 then kas_desc f (kas_rev p (n - (q + 1)) n) (n + 1) 0 else kas_desc f p (n + 1) 0)
      else .ask (p.getD (n - 1) 0) (p.getD n 0) fun d => if d = true then .ret (p, n, q) else kas_desc f p (n + 1) (q + 1)) := rfl
    rw [e]
    have ext : ∀ p' : Array Nat, (∀ k, atK κ p' k = atK κ p k) → atK κ p n ≤ atK κ p (n - 1) → DescK κ p' (n + 1) := fun p' hp' hle k hk => by
      rw [hp', hp']
      by_cases hk' : k + 1 < n
      · exact hD k hk'
      · have : k = n - 1 := by omega
        subst this
        rw [show n - 1 + 1 = n by omega]; exact hle
    by_cases hc : kr κ (p.getD n 0) (p.getD (n - 1) 0) = true
    · rw [if_pos hc]
      have hlt : atK κ p n < atK κ p (n - 1) := of_decide_eq_true hc
      by_cases hq0 : q > 0
      · rw [if_pos hq0]
        have hre := atK_rev_eq κ (p := p) (i := n - (q + 1)) (j := n) (by omega) hT
        have ih := desc_spec f (kas_rev p (n - (q + 1)) n) (n + 1) 0 (by rw [rev_size]; omega) (ext _ hre (by omega)) (by omega) (fun k h1 h2 => by
          have : k = n := by omega
          subst this; rfl)
        exact ⟨ih.1.trans (rev_perm _ _ _), ih.2.1.trans (rev_size _ _ _), by omega, by omega, ih.2.2.2.2.1, ih.2.2.2.2.2.1, ih.2.2.2.2.2.2⟩
      · rw [if_neg hq0]
        have ih := desc_spec f p (n + 1) 0 (by omega) (ext _ (fun _ => rfl) (by omega)) (by omega) (fun k h1 h2 => by
          have : k = n := by omega
          subst this; rfl)
        exact ⟨ih.1, ih.2.1, by omega, by omega, ih.2.2.2.2.1, ih.2.2.2.2.2.1, ih.2.2.2.2.2.2⟩
    · rw [if_neg hc]
      have hge : ¬ atK κ p n < atK κ p (n - 1) := fun q => hc (decide_eq_true q)
      have e2 : runT (kr κ) (.ask (p.getD (n - 1) 0) (p.getD n 0) fun d => if d = true then .ret (p, n, q) else kas_desc f p (n + 1) (q + 1)) = runT (kr κ) (if kr κ (p.getD (n - 1) 0) (p.getD n 0) = true then .ret (p, n, q) else kas_desc f p (n + 1) (q + 1)) := rfl
      rw [e2]
      by_cases hd : kr κ (p.getD (n - 1) 0) (p.getD n 0) = true
      · rw [if_pos hd]
        exact ⟨.refl _, rfl, Nat.le_refl _, by show n ≤ _; omega, hD, hq, hT⟩
      · rw [if_neg hd]
        have hge2 : ¬ atK κ p (n - 1) < atK κ p n := fun q => hd (decide_eq_true q)
        have heq : atK κ p n = atK κ p (n - 1) := by omega
        have ih := desc_spec f p (n + 1) (q + 1) (by omega) (ext _ (fun _ => rfl) (by omega)) (by omega) (fun k h1 h2 => by
          show atK κ p k = atK κ p n
          by_cases hk : k = n
          · rw [hk]
          · rw [heq]; exact hT k (by omega) (by omega))
        exact ⟨ih.1, ih.2.1, by omega, by omega, ih.2.2.2.2.1, ih.2.2.2.2.2.1, ih.2.2.2.2.2.2⟩
theorem tail3_spec {n nrem : Nat} {p : Array Nat} (h1 : 1 ≤ n) (hn : n ≤ nrem) (hz : nrem ≤ p.size) (hD : DescK κ p n) :
    (runT (kr κ) (kas_tail3 n nrem p)).2.Perm p ∧ 1 ≤ (runT (kr κ) (kas_tail3 n nrem p)).1 ∧ (runT (kr κ) (kas_tail3 n nrem p)).1 ≤ nrem ∧ AscK κ (runT (kr κ) (kas_tail3 n nrem p)).2 (runT (kr κ) (kas_tail3 n nrem p)).1 := by
  unfold kas_tail3
  rw [runT_bind]
  have hA : AscK κ (kas_rev p 0 n) n := fun k hk => by
    rw [atK_rev κ (by omega), atK_rev κ (by omega), if_pos (by omega), if_pos (by omega)]
    have := hD (0 + n - 1 - (k + 1)) (by omega)
    rw [show 0 + n - 1 - (k + 1) + 1 = 0 + n - 1 - k by omega] at this
    exact this
  have := asc_spec κ (kas_rev p 0 n) (nrem - n) n h1 hA
  exact ⟨rev_perm _ _ _, by show 1 ≤ runT (kr κ) (kas_asc (kas_rev p 0 n) (nrem - n) n); omega, by show runT (kr κ) (kas_asc (kas_rev p 0 n) (nrem - n) n) ≤ nrem; omega, this.2.2.1⟩
theorem descPart_spec {n nrem : Nat} {p : Array Nat} (h1 : 1 ≤ n) (hn : n + 1 ≤ nrem) (hz : nrem ≤ p.size) (hD : DescK κ p (n + 1)) :
    (runT (kr κ) (kas_descPart n nrem p)).2.Perm p ∧ 1 ≤ (runT (kr κ) (kas_descPart n nrem p)).1 ∧ (runT (kr κ) (kas_descPart n nrem p)).1 ≤ nrem ∧ AscK κ (runT (kr κ) (kas_descPart n nrem p)).2 (runT (kr κ) (kas_descPart n nrem p)).1 := by
  unfold kas_descPart
  rw [runT_bind]
  have hd := desc_spec κ (nrem - (n + 1)) p (n + 1) 0 (by omega) hD (by omega) (fun k h1 h2 => by
    have : k = n := by omega
    subst this; rfl)
  generalize runT (kr κ) (kas_desc (nrem - (n + 1)) p (n + 1) 0) = r at hd
  obtain ⟨a1, a2, a3, a4, a5, a6, a7⟩ := hd
  split
  · have hre := atK_rev_eq κ (p := r.1) (i := r.2.1 - (r.2.2 + 1)) (j := r.2.1) (by omega) a7
    have := tail3_spec κ (n := r.2.1) (nrem := nrem) (p := kas_rev r.1 (r.2.1 - (r.2.2 + 1)) r.2.1) (by omega) (by omega) (by rw [rev_size]; omega) (fun k hk => by rw [hre, hre]; exact a5 k hk)
    exact ⟨(this.1.trans (rev_perm _ _ _)).trans a1, this.2⟩
  · have := tail3_spec κ (n := r.2.1) (nrem := nrem) (p := r.1) (by omega) (by omega) (by omega) a5
    exact ⟨this.1.trans a1, this.2⟩
theorem count_spec {nrem : Nat} {p : Array Nat} (h1 : 1 ≤ nrem) (hz : nrem ≤ p.size) :
    (runT (kr κ) (kas_count nrem p)).2.Perm p ∧ 1 ≤ (runT (kr κ) (kas_count nrem p)).1 ∧ (runT (kr κ) (kas_count nrem p)).1 ≤ nrem ∧ AscK κ (runT (kr κ) (kas_count nrem p)).2 (runT (kr κ) (kas_count nrem p)).1 := by
  unfold kas_count
  rw [runT_bind]
  have ha := asc_spec κ p (nrem - 1) 1 (Nat.le_refl _) (fun k hk => by omega)
  generalize runT (kr κ) (kas_asc p (nrem - 1) 1) = n at ha
  obtain ⟨b1, b2, b3, b4⟩ := ha
  by_cases hn : (n == nrem) = true
  · rw [if_pos hn]
    exact ⟨.refl _, b1, by show n ≤ nrem; omega, b3⟩
  · rw [if_neg hn]
    have hlt : n < nrem := by simp at hn; omega
    have hstep := b4 (by omega)
    by_cases hn1 : n > 1
    · rw [if_pos hn1]
      show (runT (kr κ) (if kr κ (p.getD 0 0) (p.getD (n - 1) 0) = true then .ret (n, p) else kas_descPart n nrem (kas_rev p 0 n))).2.Perm p ∧ 1 ≤ (runT (kr κ) (if kr κ (p.getD 0 0) (p.getD (n - 1) 0) = true then .ret (n, p) else kas_descPart n nrem (kas_rev p 0 n))).1 ∧ (runT (kr κ) (if kr κ (p.getD 0 0) (p.getD (n - 1) 0) = true then .ret (n, p) else kas_descPart n nrem (kas_rev p 0 n))).1 ≤ nrem ∧ AscK κ (runT (kr κ) (if kr κ (p.getD 0 0) (p.getD (n - 1) 0) = true then .ret (n, p) else kas_descPart n nrem (kas_rev p 0 n))).2 (runT (kr κ) (if kr κ (p.getD 0 0) (p.getD (n - 1) 0) = true then .ret (n, p) else kas_descPart n nrem (kas_rev p 0 n))).1
      by_cases hc : kr κ (p.getD 0 0) (p.getD (n - 1) 0) = true
      · rw [if_pos hc]
        exact ⟨.refl _, b1, by show n ≤ nrem; omega, b3⟩
      · rw [if_neg hc]
        have hge : ¬ atK κ p 0 < atK κ p (n - 1) := fun q => hc (decide_eq_true q)
        have hconst : ∀ k, 0 ≤ k → k < n → atK κ p k = atK κ p (n - 1) := fun k _ hk => by
          have u1 := b3.le κ (i := 0) (j := k) (by omega) hk
          have u2 := b3.le κ (i := k) (j := n - 1) (by omega) (by omega)
          omega
        have hre := atK_rev_eq κ (p := p) (i := 0) (j := n) (by omega) hconst
        have := descPart_spec κ (n := n) (nrem := nrem) (p := kas_rev p 0 n) b1 (by omega) (by rw [rev_size]; omega) (fun k hk => by
          rw [hre, hre]
          by_cases hk' : k + 1 < n
          · rw [hconst k (by omega) (by omega), hconst (k + 1) (by omega) (by omega)]; exact Int.le_refl _
          · have : k = n - 1 := by omega
            subst this
            rw [show n - 1 + 1 = n by omega]; omega)
        exact ⟨this.1.trans (rev_perm _ _ _), this.2⟩
    · rw [if_neg hn1]
      have : n = 1 := by omega
      subst this
      exact descPart_spec κ (n := 1) (nrem := nrem) (p := p) (Nat.le_refl _) (by omega) hz (fun k hk => by
        have : k = 0 := by omega
        subst this
        exact Int.le_of_lt hstep)
theorem place_spec {p : Array Nat} {k : Nat} (hA : AscK κ p k) : ∀ (f l r : Nat), r ≤ k → l ≤ r → r - l ≤ f → (∀ i, i < l → atK κ p i ≤ atK κ p k) → (∀ i, r ≤ i → i < k → atK κ p k < atK κ p i) →
    runT (kr κ) (kas_place p k f l r) ≤ k ∧ (∀ i, i < runT (kr κ) (kas_place p k f l r) → atK κ p i ≤ atK κ p k) ∧ (∀ i, runT (kr κ) (kas_place p k f l r) ≤ i → i < k → atK κ p k < atK κ p i)
  | 0, l, r, hr, hl, hf, h1, h2 => by
    have : l = r := by omega
    subst this
    exact ⟨hr, h1, h2⟩
  | f + 1, l, r, hr, hl, hf, h1, h2 => by
    have e : kas_place p k (f + 1) l r = if l ≥ r then .ret l else .ask (p.getD k 0) (p.getD ((l + r) / 2) 0) fun c => if c = true then kas_place p k f l ((l + r) / 2) else kas_place p k f ((l + r) / 2 + 1) r := rfl
    rw [e]
    by_cases hlr : l ≥ r
    · rw [if_pos hlr]
      have : l = r := by omega
      subst this
      exact ⟨hr, h1, h2⟩
    · rw [if_neg hlr]
      have e2 : runT (kr κ) (.ask (p.getD k 0) (p.getD ((l + r) / 2) 0) fun c => if c = true then kas_place p k f l ((l + r) / 2) else kas_place p k f ((l + r) / 2 + 1) r) = runT (kr κ) (if kr κ (p.getD k 0) (p.getD ((l + r) / 2) 0) = true then kas_place p k f l ((l + r) / 2) else kas_place p k f ((l + r) / 2 + 1) r) := rfl
      rw [e2]
      by_cases hc : kr κ (p.getD k 0) (p.getD ((l + r) / 2) 0) = true
      · rw [if_pos hc]
        have hlt : atK κ p k < atK κ p ((l + r) / 2) := of_decide_eq_true hc
        exact place_spec hA f l ((l + r) / 2) (by omega) (by omega) (by omega) h1 (fun i hi hk => Int.lt_of_lt_of_le hlt (hA.le κ hi hk))
      · rw [if_neg hc]
        have hge : ¬ atK κ p k < atK κ p ((l + r) / 2) := fun q => hc (decide_eq_true q)
        exact place_spec hA f ((l + r) / 2 + 1) r hr (by omega) (by omega) (fun i hi => Int.le_trans (hA.le κ (show i ≤ (l + r) / 2 by omega) (by omega)) (by omega)) h2
theorem bin_spec : ∀ (f : Nat) (p : Array Nat) (k : Nat), k + f ≤ p.size → AscK κ p k → (runT (kr κ) (kas_bin f p k)).Perm p ∧ AscK κ (runT (kr κ) (kas_bin f p k)) (k + f)
  | 0, p, k, _, h => ⟨.refl _, h⟩
  | f + 1, p, k, hz, h => by
    have e : kas_bin (f + 1) p k = (kas_place p k k 0 k).bind fun l => kas_bin f (bubble p k (k - l)) (k + 1) := rfl
    rw [e, runT_bind]
    have hp := place_spec κ h k 0 k (Nat.le_refl _) (Nat.zero_le _) (by omega) (fun i hi => absurd hi (Nat.not_lt_zero _)) (fun i h1 h2 => by omega)
    generalize runT (kr κ) (kas_place p k k 0 k) = l at hp
    obtain ⟨c1, c2, c3⟩ := hp
    have hA : AscK κ (bubble p k (k - l)) (k + 1) := fun i hi => by
      rw [atK_bubble κ (by omega) (by omega), atK_bubble κ (by omega) (by omega)]
      rw [show k - (k - l) = l by omega]
      by_cases q1 : i = l
      · subst q1
        rw [if_pos rfl, if_neg (by omega), if_pos (by omega), show i + 1 - 1 = i by omega]
        exact Int.le_of_lt (c3 i (Nat.le_refl _) (by omega))
      · rw [if_neg q1]
        by_cases q2 : l < i
        · rw [if_pos (by omega), if_neg (by omega), if_pos (by omega), show i + 1 - 1 = i - 1 + 1 by omega]
          exact h (i - 1) (by omega)
        · rw [if_neg (by omega)]
          by_cases q3 : i + 1 = l
          · rw [if_pos q3]; exact c2 i (by omega)
          · rw [if_neg q3, if_neg (by omega)]
            exact h i (by omega)
    have ih := bin_spec f (bubble p k (k - l)) (k + 1) (by rw [bubble_size]; omega) hA
    rw [show k + (f + 1) = k + 1 + f by omega]
    exact ⟨ih.1.trans (bubble_perm _ _ _), ih.2⟩
theorem sort_spec {n : Nat} (h1 : 1 ≤ n) : (runT (kr κ) (kas_sort n)).Perm (List.range n).toArray ∧ AscK κ (runT (kr κ) (kas_sort n)) n := by
  unfold kas_sort
  rw [runT_bind]
  have hc := count_spec κ (nrem := n) (p := (List.range n).toArray) h1 (by simp)
  generalize runT (kr κ) (kas_count n (List.range n).toArray) = r at hc
  obtain ⟨a1, a2, a3, a4⟩ := hc
  have hs : r.2.size = n := by have := a1.size_eq; simpa using this
  split
  · have := bin_spec κ (n - max r.1 1) r.2 (max r.1 1) (by omega) (by rw [show max r.1 1 = r.1 by omega]; exact a4)
    rw [show max r.1 1 + (n - max r.1 1) = n by omega] at this
    exact ⟨this.1.trans a1, this.2⟩
  · have : r.1 = n := by omega
    rw [this] at a4
    exact ⟨a1, a4⟩
end

end -- WSort
section -- WCmp
noncomputable def ltL : List Int → List Int → Bool
  | [], [] => false
  | [], _ :: _ => true
  | _ :: _, [] => false
  | a :: as, b :: bs => if a = b then ltL as bs else decide (a < b)
theorem intsAre_at : ∀ {vs : List Value} {ns : List Int} (i : Nat), IntsAre vs ns → (vs[i]? = none ∧ ns[i]? = none) ∨ ∃ n t, vs[i]? = some (.int n t) ∧ ns[i]? = some n
  | _, _, _, .nil => .inl ⟨rfl, rfl⟩
  | _, _, 0, .cons n t _ => .inr ⟨n, t, rfl, rfl⟩
  | _, _, i + 1, .cons n t h => by simpa using intsAre_at i h
section
variable {prog : Program} {w : World} {A : Around} {s : Shared}
theorem lt_ints {E : Value → Shared → Prop} {a b : Int} {t u : Tok} {Q : Value → Shared → Prop} (h : Q (.bool (decide (a < b))) s) : wpAny (model prog w) A (richCompare .Lt (.int a t) (.int b u)) Q E s :=
  richCompare_gives (op := .Lt) (typeIs_int s _ t) (typeIs_int s _ u) PySem.F.slot_int_lt PySem.F.entry_int_lt (PySem.F.args_int_lt_2 _ _) (gives_int_lt _ _ t u) (fun x => nomatch x) h
theorem lt_loop {l b : Addr} {vs us : List Value} {ns ms : List Int} {R : Result → Shared → Prop} (hl : s.heap.IsList l vs.toArray) (hb : s.heap.IsList b us.toArray) (hv : IntsAre vs ns) (hu : IntsAre us ms) :
    ∀ (k i : Nat), ns.length - i = k → i ≤ ns.length → i ≤ ms.length → R (.ok (.ret (.bool (ltL (ns.drop i) (ms.drop i))))) s → codeAny (model prog w) A (.builtin "list.__eq__.loop" ⟨[.ref l, .ref b, rawInt i, rawInt 0], []⟩) R s := by
  obtain ⟨o, ho, hc, n, hd⟩ := hl
  obtain ⟨o', ho', hc', n', hd'⟩ := hb
  have hlen : vs.length = ns.length := hv.length
  have hlen' : us.length = ms.length := hu.length
  intro k
  induction k with
  | zero =>
    intro i hk hi hi' h
    refine codeAny_builtin MeetsSeq3.entry_eq_loop ?_
    rw [Around.under_plainId MeetsSeq3.plain_eq_loop _]
    unfold Builtin.«list.__eq__.loop»
    show wpAny _ _ (Builtin.List.listItems (.ref l) >>= _) _ _ s
    refine wpAny_bind (wpAny_listItems ho hd ?_)
    refine wpAny_bind (wpAny_listItems ho' hd' ?_)
    have e1 : ns.drop i = [] := List.drop_of_length_le (by omega)
    have e2 : vs[i]? = none := List.getElem?_eq_none (by omega)
    have e3 : vs.toArray[((i : Int)).toNat]? = none := by simpa using e2
    rw [e3]
    refine wpAny_bind (wpAny_listItems ho hd ?_)
    refine wpAny_bind (wpAny_listItems ho' hd' (wpAny_pure ?_))
    show R (.ok (.ret (.bool (decide (vs.toArray.size < us.toArray.size))))) s
    rw [e1] at h
    have e4 : decide (vs.toArray.size < us.toArray.size) = ltL [] (ms.drop i) := by
      rw [List.size_toArray, List.size_toArray]
      cases hm : ms.drop i with
      | nil =>
        have : ms.length ≤ i := by rw [List.drop_eq_nil_iff] at hm; exact hm
        exact decide_eq_false (by omega)
      | cons x r =>
        have h2 := congrArg List.length hm
        rw [List.length_drop, List.length_cons] at h2
        exact decide_eq_true (by omega)
    rw [e4]; exact h
  | succ k ih =>
    intro i hk hi hi' h
    refine codeAny_builtin MeetsSeq3.entry_eq_loop ?_
    rw [Around.under_plainId MeetsSeq3.plain_eq_loop _]
    unfold Builtin.«list.__eq__.loop»
    show wpAny _ _ (Builtin.List.listItems (.ref l) >>= _) _ _ s
    refine wpAny_bind (wpAny_listItems ho hd ?_)
    refine wpAny_bind (wpAny_listItems ho' hd' ?_)
    have hlt : i < ns.length := by omega
    rcases intsAre_at i hv with ⟨_, h2⟩ | ⟨x, tx, hx, hx2⟩
    · rw [List.getElem?_eq_getElem hlt] at h2; cases h2
    have ed : ns.drop i = x :: ns.drop (i + 1) := by
      rw [List.drop_eq_getElem_cons hlt]
      rw [List.getElem?_eq_getElem hlt] at hx2
      injection hx2 with hx2
      rw [hx2]
    have ex : vs.toArray[((i : Int)).toNat]? = some (.int x tx) := by simpa using hx
    rw [ex]
    rcases intsAre_at i hu with ⟨g1, g2⟩ | ⟨y, ty, hy, hy2⟩
    · have ey : us.toArray[((i : Int)).toNat]? = none := by simpa using g1
      rw [ey]
      refine wpAny_bind (wpAny_listItems ho hd ?_)
      refine wpAny_bind (wpAny_listItems ho' hd' (wpAny_pure ?_))
      have hge : ms.length ≤ i := by rw [List.getElem?_eq_none_iff] at g2; exact g2
      show R (.ok (.ret (.bool (decide (vs.toArray.size < us.toArray.size))))) s
      rw [ed, List.drop_of_length_le hge] at h
      have e4 : decide (vs.toArray.size < us.toArray.size) = false := by
        rw [List.size_toArray, List.size_toArray]; exact decide_eq_false (by omega)
      rw [e4]; exact h
    · have ey : us.toArray[((i : Int)).toNat]? = some (.int y ty) := by simpa using hy
      have hlt' : i < ms.length := by
        rcases Nat.lt_or_ge i ms.length with q | q
        · exact q
        · rw [List.getElem?_eq_none q] at hy2; cases hy2
      have ed' : ms.drop i = y :: ms.drop (i + 1) := by
        rw [List.drop_eq_getElem_cons hlt']
        rw [List.getElem?_eq_getElem hlt'] at hy2
        injection hy2 with hy2
        rw [hy2]
      rw [ey]
      rw [ed, ed'] at h
      refine wpAny_bind (wpAny_eqBool_int ?_)
      by_cases hxy : x = y
      · have eb : (x == y) = true := by simpa using hxy
        rw [eb, if_pos rfl]
        have ei : ((i : Int) + 1) = ((i + 1 : Nat) : Int) := by push_cast; rfl
        rw [ei]
        have hh : R (.ok (.ret (.bool (ltL (ns.drop (i + 1)) (ms.drop (i + 1)))))) s := by
          unfold ltL at h
          rw [if_pos hxy] at h; exact h
        exact wpAny_pure ⟨plainId_quiet MeetsSeq3.plain_eq_loop _, ih (i + 1) (by omega) (by omega) (by omega) hh⟩
      · have eb : (x == y) = false := by simpa using hxy
        rw [eb, if_neg Bool.false_ne_true]
        refine wpAny_bind (wpAny_listItems ho hd ?_)
        refine wpAny_bind (wpAny_listItems ho' hd' ?_)
        rw [ex, ey]
        refine wpAny_bind (lt_ints (wpAny_pure ?_))
        unfold ltL at h
        rw [if_neg hxy] at h; exact h
theorem call_lt {E : Value → Shared → Prop} {l b : Addr} {vs us : List Value} {ns ms : List Int} {Q : Value → Shared → Prop} (hl : s.heap.IsList l vs.toArray) (hb : s.heap.IsList b us.toArray) (hv : IntsAre vs ns) (hu : IntsAre us ms) (h : Q (.bool (ltL ns ms)) s) :
    wpAny (model prog w) A (call (.builtin "list.__lt__") [.ref l, .ref b]) Q E s := by
  refine wpAny_call (codeAny_call_builtin PySem.F.slot_list_lt.plain PySem.F.entry_list_lt (PySem.F.slot_list_lt.check _ _ _ _ _ _ _ _ hl.typeIs (PySem.F.args_list_lt_2 _ _) ?_))
  have e : Builtin.«list.__lt__» ⟨[.ref l, .ref b], []⟩ = (isInstance (.ref b) (.type "list") >>= fun c => if (!c) = true then ret .notImplemented else again (.builtin "list.__eq__.loop" ⟨[.ref l, .ref b, rawInt 0, rawInt 0], []⟩)) := by kernel_rfl
  rw [e]
  refine wpAny_bind (wpAny_isInstance hb.typeIs AutoSeq1.sub_list_list ?_)
  rw [if_neg (by decide)]
  exact wpAny_pure ⟨plainId_quiet MeetsSeq3.plain_eq_loop _, lt_loop hl hb hv hu _ 0 rfl (Nat.zero_le _) (Nat.zero_le _) h⟩
theorem oneLt_ints {E : Value → Shared → Prop} {l b : Addr} {vs us : List Value} {ns ms : List Int} {Q : Bool → Shared → Prop} (hun : A.units < cLine) (hl : s.heap.IsList l vs.toArray) (hb : s.heap.IsList b us.toArray) (hv : IntsAre vs ns) (hu : IntsAre us ms) (h : Q (ltL ns ms) s) :
    wpAny (model prog w) A (oneLt' true (.ref l) (.ref b)) Q E s := by
  rw [oneLt'_eq]
  simp only [if_true]
  refine wpAny_bind (wpAny_cRoomFor hun ?_)
  refine wpAny_bind (wpAny_callSpecialIfBound?_slot hl.typeIs PySem.F.slot_list_lt (call_lt hl hb hv hu ?_))
  exact wpAny_truthy_bool h
theorem eqBool_ints {E : Value → Shared → Prop} {l b : Addr} {vs us : List Value} {ns ms : List Int} {Q : Bool → Shared → Prop} (hun : A.units + 64 < cLine) (hl : s.heap.IsList l vs.toArray) (hb : s.heap.IsList b us.toArray) (hv : IntsAre vs ns) (hu : IntsAre us ms) (hsame : l = b → ns = ms) (h : Q (decide (ns = ms)) s) :
    wpAny (model prog w) A (eqBool (.ref l) (.ref b)) Q E s := by
  unfold eqBool
  refine wpAny_holding ?_
  by_cases hlb : l = b
  · have e : ((Value.ref l == Value.ref b) = true) := by rw [hlb]; exact beq_self_eq_true _
    rw [if_pos e]
    refine wpAny_bind (wpAny_rule (wpAny_pure ?_))
    rw [decide_eq_true (hsame hlb)] at h; exact h
  · have e : ¬ ((Value.ref l == Value.ref b) = true) := by
      intro q; have := eq_of_beq q; injection this with this; exact hlb this
    rw [if_neg e]
    refine wpAny_bind ?_
    refine wpAny_mono (show wpAny (model prog w) A (richCompare .Eq (.ref l) (.ref b)) _ _ _ from ke_eq_ints (Q := fun v s' => v = .bool (decide (ns = ms)) ∧ s' = s) hl hb hv hu hun ⟨rfl, rfl⟩) ?_ (fun _ _ h => h)
    rintro v s' ⟨rfl, rfl⟩
    exact wpAny_truthy_bool h
end

end -- WCmp
section -- WSort2
noncomputable def AskR (r : Nat → Nat → Bool) (N : Nat) {α : Type} : KasT α → Prop
  | .ret _ => True
  | .ask i j k => i < N ∧ j < N ∧ AskR r N (k (r i j))
theorem askR_bind {r : Nat → Nat → Bool} {N : Nat} {α β : Type} {f : α → KasT β} : ∀ {t : KasT α}, AskR r N t → AskR r N (f (runT r t)) → AskR r N (t.bind f)
  | .ret _, _, h => h
  | .ask _ _ _, h1, h2 => ⟨h1.1, h1.2.1, askR_bind h1.2.2 h2⟩
theorem wp_runR {r : Nat → Nat → Bool} {N : Nat} {cmp : Nat → Nat → (Bool → Shared → Prop) → Shared → Prop} {I : Shared → Prop} (hc : ∀ i j C s, i < N → j < N → I s → (∀ s', I s' → C (r i j) s') → cmp i j C s) {α : Type} {Q : α → Shared → Prop} :
    ∀ (t : KasT α) (s : Shared), AskR r N t → I s → (∀ s', I s' → Q (runT r t) s') → t.kasWp cmp Q s
  | .ret _, s, _, hs, h => h s hs
  | .ask i j k, s, ha, hs, h => hc i j _ s ha.1 ha.2.1 hs fun s' hs' => wp_runR hc (k (r i j)) s' ha.2.2 hs' h
def PB (N : Nat) (p : Array Nat) : Prop := ∀ x ∈ p, x < N
theorem PB.at {N : Nat} {p : Array Nat} (h : PB N p) {k : Nat} (hk : k < p.size) : p.getD k 0 < N := by
  apply h
  rw [Array.getD_eq_getD_getElem?, Array.getElem?_eq_getElem hk]
  exact Array.getElem_mem hk
theorem PB.perm {N : Nat} {p q : Array Nat} (h : PB N p) (hp : q.Perm p) : PB N q := fun x hx => h x (hp.mem_iff.1 hx)
section
variable {N : Nat} (κ : Nat → Int)
theorem asc_ask {p : Array Nat} (hb : PB N p) : ∀ (f n : Nat), 1 ≤ n → n + f ≤ p.size → AskR (kr κ) N (kas_asc p f n)
  | 0, _, _, _ => trivial
  | f + 1, n, h1, hz => by
    refine ⟨hb.at (by omega), hb.at (by omega), ?_⟩
    show AskR (kr κ) N (if kr κ (p.getD n 0) (p.getD (n - 1) 0) = true then .ret n else kas_asc p f (n + 1))
    split
    · trivial
    · exact asc_ask hb f (n + 1) (by omega) (by omega)
theorem desc_ask : ∀ (f : Nat) (p : Array Nat) (n q : Nat), PB N p → 1 ≤ n → n + f ≤ p.size → AskR (kr κ) N (kas_desc f p n q)
  | 0, _, _, _, _, _, _ => trivial
  | f + 1, p, n, q, hb, h1, hz => by
    refine ⟨hb.at (by omega), hb.at (by omega), ?_⟩
    show AskR (kr κ) N (if kr κ (p.getD n 0) (p.getD (n - 1) 0) = true then (if q > 0 then kas_desc f (kas_rev p (n - (q + 1)) n) (n + 1) 0 else kas_desc f p (n + 1) 0)
      else .ask (p.getD (n - 1) 0) (p.getD n 0) fun d => if d = true then .ret (p, n, q) else kas_desc f p (n + 1) (q + 1))
    split
    · split
      · exact desc_ask f _ _ _ (hb.perm (rev_perm _ _ _)) (by omega) (by rw [rev_size]; omega)
      · exact desc_ask f _ _ _ hb (by omega) (by omega)
    · refine ⟨hb.at (by omega), hb.at (by omega), ?_⟩
      show AskR (kr κ) N (if kr κ (p.getD (n - 1) 0) (p.getD n 0) = true then .ret (p, n, q) else kas_desc f p (n + 1) (q + 1))
      split
      · trivial
      · exact desc_ask f _ _ _ hb (by omega) (by omega)
theorem tail3_ask {n nrem : Nat} {p : Array Nat} (hb : PB N p) (h1 : 1 ≤ n) (hn : n ≤ nrem) (hz : nrem ≤ p.size) : AskR (kr κ) N (kas_tail3 n nrem p) :=
  askR_bind (asc_ask κ (hb.perm (rev_perm _ _ _)) _ _ h1 (by rw [rev_size]; omega)) trivial
theorem descPart_ask {n nrem : Nat} {p : Array Nat} (hb : PB N p) (h1 : 1 ≤ n) (hn : n + 1 ≤ nrem) (hz : nrem ≤ p.size) (hD : DescK κ p (n + 1)) : AskR (kr κ) N (kas_descPart n nrem p) := by
  refine askR_bind (desc_ask κ _ _ _ _ hb (by omega) (by omega)) ?_
  have hd := desc_spec κ (nrem - (n + 1)) p (n + 1) 0 (by omega) hD (by omega) (fun k h1 h2 => by
    have : k = n := by omega
    subst this; rfl)
  generalize runT (kr κ) (kas_desc (nrem - (n + 1)) p (n + 1) 0) = r at hd
  obtain ⟨a1, a2, a3, a4, a5, a6, a7⟩ := hd
  split
  · exact tail3_ask κ ((hb.perm a1).perm (rev_perm _ _ _)) (by omega) (by omega) (by rw [rev_size]; omega)
  · exact tail3_ask κ (hb.perm a1) (by omega) (by omega) (by omega)
theorem count_ask {nrem : Nat} {p : Array Nat} (hb : PB N p) (h1 : 1 ≤ nrem) (hz : nrem ≤ p.size) : AskR (kr κ) N (kas_count nrem p) := by
  refine askR_bind (asc_ask κ hb _ _ (Nat.le_refl _) (by omega)) ?_
  have ha := asc_spec κ p (nrem - 1) 1 (Nat.le_refl _) (fun k hk => by omega)
  generalize runT (kr κ) (kas_asc p (nrem - 1) 1) = n at ha
  obtain ⟨b1, b2, b3, b4⟩ := ha
  by_cases hn : (n == nrem) = true
  · rw [if_pos hn]; trivial
  · rw [if_neg hn]
    have hlt : n < nrem := by simp at hn; omega
    have hstep := b4 (by omega)
    by_cases hn1 : n > 1
    · rw [if_pos hn1]
      refine ⟨hb.at (by omega), hb.at (by omega), ?_⟩
      show AskR (kr κ) N (if kr κ (p.getD 0 0) (p.getD (n - 1) 0) = true then .ret (n, p) else kas_descPart n nrem (kas_rev p 0 n))
      by_cases hc : kr κ (p.getD 0 0) (p.getD (n - 1) 0) = true
      · rw [if_pos hc]; trivial
      · rw [if_neg hc]
        have hge : ¬ atK κ p 0 < atK κ p (n - 1) := fun q => hc (decide_eq_true q)
        have hconst : ∀ k, 0 ≤ k → k < n → atK κ p k = atK κ p (n - 1) := fun k _ hk => by
          have u1 := b3.le κ (i := 0) (j := k) (by omega) hk
          have u2 := b3.le κ (i := k) (j := n - 1) (by omega) (by omega)
          omega
        have hre := atK_rev_eq κ (p := p) (i := 0) (j := n) (by omega) hconst
        exact descPart_ask κ (n := n) (nrem := nrem) (p := kas_rev p 0 n) (hb.perm (rev_perm _ _ _)) b1 (by omega) (by rw [rev_size]; omega) (fun k hk => by
          rw [hre, hre]
          by_cases hk' : k + 1 < n
          · rw [hconst k (by omega) (by omega), hconst (k + 1) (by omega) (by omega)]; exact Int.le_refl _
          · have : k = n - 1 := by omega
            subst this
            rw [show n - 1 + 1 = n by omega]; omega)
    · rw [if_neg hn1]
      have : n = 1 := by omega
      subst this
      exact descPart_ask κ hb (Nat.le_refl _) (by omega) hz (fun k hk => by
        have : k = 0 := by omega
        subst this
        exact Int.le_of_lt hstep)
theorem place_ask {p : Array Nat} {k : Nat} (hb : PB N p) (hk : k < p.size) : ∀ (f l r : Nat), r ≤ k → AskR (kr κ) N (kas_place p k f l r)
  | 0, _, _, _ => trivial
  | f + 1, l, r, hr => by
    have e : kas_place p k (f + 1) l r = if l ≥ r then .ret l else .ask (p.getD k 0) (p.getD ((l + r) / 2) 0) fun c => if c = true then kas_place p k f l ((l + r) / 2) else kas_place p k f ((l + r) / 2 + 1) r := rfl
    rw [e]
    by_cases hlr : l ≥ r
    · rw [if_pos hlr]; trivial
    · rw [if_neg hlr]
      refine ⟨hb.at hk, hb.at (by omega), ?_⟩
      show AskR (kr κ) N (if kr κ (p.getD k 0) (p.getD ((l + r) / 2) 0) = true then kas_place p k f l ((l + r) / 2) else kas_place p k f ((l + r) / 2 + 1) r)
      by_cases hc : kr κ (p.getD k 0) (p.getD ((l + r) / 2) 0) = true
      · rw [if_pos hc]; exact place_ask hb hk f _ _ (by omega)
      · rw [if_neg hc]; exact place_ask hb hk f _ _ hr
theorem bin_ask : ∀ (f : Nat) (p : Array Nat) (k : Nat), PB N p → k + f ≤ p.size → AskR (kr κ) N (kas_bin f p k)
  | 0, _, _, _, _ => trivial
  | f + 1, p, k, hb, hz => askR_bind (place_ask κ hb (by omega) _ _ _ (Nat.le_refl _)) (bin_ask f _ _ (hb.perm (bubble_perm _ _ _)) (by rw [bubble_size]; omega))
theorem sort_ask {n : Nat} (h1 : 1 ≤ n) : AskR (kr κ) n (kas_sort n) := by
  have hb : PB n (List.range n).toArray := fun x hx => by simpa using hx
  refine askR_bind (count_ask κ hb h1 (by simp)) ?_
  have hc := count_spec κ (nrem := n) (p := (List.range n).toArray) h1 (by simp)
  generalize runT (kr κ) (kas_count n (List.range n).toArray) = r at hc
  obtain ⟨a1, a2, a3, a4⟩ := hc
  have hs : r.2.size = n := by have := a1.size_eq; simpa using this
  split
  · exact bin_ask κ _ _ _ (hb.perm a1) (by omega)
  · trivial
end

end -- WSort2
section -- WEnt
structure Ent where
  T : Addr
  R : Addr
  O : Addr
  rv : List Value
  ov : List Value
  rn : Nat
  on : Nat
  w : Str
  wt : Tok
  sz : Int
  st : Tok
  rk : List Int
  ns : List Int
def Ent.tup (e : Ent) : Obj := { cls := .type "tuple", data := .seq #[.ref e.R, .str e.w e.wt, .ref e.O, .int e.sz e.st] }
structure EntIn (nw : List (Addr × Obj)) (e : Ent) : Prop where
  t : (e.T, e.tup) ∈ nw
  r : (e.R, listOf e.rv.toArray e.rn) ∈ nw
  o : (e.O, listOf e.ov.toArray e.on) ∈ nw
  ri : IntsAre e.rv e.rk
  oi : IntsAre e.ov e.ns
theorem EntIn.mono {nw nw' : List (Addr × Obj)} {e : Ent} (h : EntIn nw e) (hs : ∀ p ∈ nw, p ∈ nw') : EntIn nw' e := ⟨hs _ h.t, hs _ h.r, hs _ h.o, h.ri, h.oi⟩
theorem ltL_eq : ∀ a b : List Int, ltL a b = decide (a < b)
  | [], [] => by simp [ltL]
  | [], _ :: _ => by simp [ltL]
  | _ :: _, [] => by simp [ltL]
  | a :: as, b :: bs => by
    unfold ltL
    rw [ltL_eq as bs]
    by_cases h : a = b
    · subst h; simp
    · rw [if_neg h]
      simp [List.cons_lt_cons_iff, h]
def keyLt (a b : List Int × Int) : Bool := decide (a.1 < b.1) || (decide (a.1 = b.1) && decide (a.2 < b.2))
def Ent.key (e : Ent) : List Int × Int := (e.rk, e.sz)
theorem key_irr (a : List Int × Int) : keyLt a a = false := by
  have := List.lt_irrefl a.1
  simp [keyLt, this]
theorem key_neg {a b c : List Int × Int} (h : keyLt a c = true) : keyLt a b = true ∨ keyLt b c = true := by
  simp only [keyLt, Bool.or_eq_true, Bool.and_eq_true, decide_eq_true_eq] at *
  by_cases h1 : a.1 < b.1
  · exact .inl (.inl h1)
  by_cases h2 : b.1 < c.1
  · exact .inr (.inl h2)
  have hba : b.1 ≤ a.1 := List.not_lt.mp h1
  have hcb : c.1 ≤ b.1 := List.not_lt.mp h2
  have hca : c.1 ≤ a.1 := List.le_trans hcb hba
  rcases h with h | ⟨h, h'⟩
  · exact absurd h (List.not_lt.mpr hca)
  · rw [h] at hba h1
    have hbc : b.1 = c.1 := List.le_antisymm hba hcb
    rw [h, hbc]
    by_cases q : a.2 < b.2
    · exact .inl (.inr ⟨rfl, q⟩)
    · exact .inr (.inr ⟨rfl, by omega⟩)
theorem key_asym {a b : List Int × Int} (h : keyLt a b = true) : keyLt b a = false := by
  cases q : keyLt b a with
  | false => rfl
  | true =>
    simp only [keyLt, Bool.or_eq_true, Bool.and_eq_true, decide_eq_true_eq] at h q
    rcases h with h | ⟨h, h'⟩ <;> rcases q with q | ⟨q, q'⟩
    · exact absurd (List.lt_trans h q) (List.lt_irrefl _)
    · rw [q] at h; exact absurd h (List.lt_irrefl _)
    · rw [h] at q; exact absurd q (List.lt_irrefl _)
    · omega
def rankI (l : List (List Int × Int)) (a : List Int × Int) : Int := ((l.filter fun x => keyLt x a).length : Nat)
theorem rank_lt {l : List (List Int × Int)} {a b : List Int × Int} (ha : a ∈ l) : keyLt a b = decide (rankI l a < rankI l b) := by
  have mono : ∀ {a b : List Int × Int}, keyLt b a = false → ∀ l : List (List Int × Int), (l.filter fun x => keyLt x a).length ≤ (l.filter fun x => keyLt x b).length := by
    intro a b hba l
    induction l with
    | nil => exact Nat.le_refl _
    | cons x l ih =>
      have himp : keyLt x a = true → keyLt x b = true := fun h => by
        rcases key_neg (b := b) h with h | h
        · exact h
        · rw [hba] at h; cases h
      simp only [List.filter_cons]
      cases hxa : keyLt x a with
      | true => simp [himp hxa]; exact ih
      | false =>
        cases keyLt x b with
        | true => simp; exact Nat.le_succ_of_le ih
        | false => simpa using ih
  have strict : ∀ {a b : List Int × Int}, keyLt a b = true → ∀ l : List (List Int × Int), a ∈ l → (l.filter fun x => keyLt x a).length < (l.filter fun x => keyLt x b).length := by
    intro a b hab l
    induction l with
    | nil => intro h; cases h
    | cons x l ih =>
      intro hm
      simp only [List.filter_cons]
      by_cases hxa : x = a
      · subst hxa
        rw [key_irr, hab]
        have := mono (key_asym hab) l
        simp
        omega
      · have hm' : a ∈ l := by
          rcases List.mem_cons.mp hm with h | h
          · exact absurd h.symm hxa
          · exact h
        have ih' := ih hm'
        have himp : keyLt x a = true → keyLt x b = true := fun h => by
          rcases key_neg (b := b) h with h | h
          · exact h
          · rw [key_asym hab] at h; cases h
        cases hq : keyLt x a with
        | true => simp [himp hq]; exact ih'
        | false =>
          cases keyLt x b with
          | true => simp; omega
          | false => simpa using ih'
  unfold rankI
  cases hab : keyLt a b with
  | true => exact (decide_eq_true (by have := strict hab l ha; omega)).symm
  | false => exact (decide_eq_false (by have := mono hab l; omega)).symm
section
variable {prog : Program} {w : World} {A : Around} {E : Value → Shared → Prop} {s : Shared} {h₀ : Heap} {L : Addr} {m : Str → Option Value} {news : List (Addr × Obj)}
theorem ints_unique : ∀ {vs : List Value} {a b : List Int}, IntsAre vs a → IntsAre vs b → a = b
  | _, _, _, .nil, .nil => rfl
  | _, _, _, .cons _ _ h, .cons _ _ h' => by rw [ints_unique h h']
theorem news_same {a : Addr} {o o' : Obj} {h : Heap} (N : News h₀ L h news) (h1 : (a, o) ∈ news) (h2 : (a, o') ∈ news) : o = o' := by
  have e1 := (N _ h1).1
  have e2 := (N _ h2).1
  exact Option.some.inj (e1.symm.trans e2)
theorem list_same {a : Addr} {vs us : List Value} {n k : Nat} {x y : List Int} {h : Heap} (N : News h₀ L h news) (h1 : (a, listOf vs.toArray n) ∈ news) (h2 : (a, listOf us.toArray k) ∈ news) (i1 : IntsAre vs x) (i2 : IntsAre us y) : x = y := by
  have e := news_same N h1 h2
  have e' := congrArg Obj.data e
  have e3 : Data.seq vs.toArray n = Data.seq us.toArray k := e'
  injection e3 with e4 _
  have e5 : vs = us := by simpa using e4
  subst e5
  exact ints_unique i1 i2
theorem ent_lt {e f : Ent} {Q : Bool → Shared → Prop} (hun : A.units + 64 < cLine) (N : News h₀ L s.heap news) (he : EntIn news e) (hf : EntIn news f) (hc : e.rk = f.rk → e.w = f.w ∧ e.ns = f.ns) (h : Q (keyLt e.key f.key) s) :
    wpAny (model prog w) A (keyLt' (tuples' true) (.ref e.T) (.ref f.T)) Q E s := by
  refine kat_lt (N _ he.t).1 rfl (N _ hf.t).1 rfl ?_
  show KatLex prog w A true _ Q [(.ref e.R, .ref f.R), (.str e.w e.wt, .str f.w f.wt), (.ref e.O, .ref f.O), (.int e.sz e.st, .int f.sz f.st)] 0 s
  refine kat_cons (eqBool_ints hun (it_isList N he.r) (it_isList N hf.r) he.ri hf.ri (fun q => list_same N he.r (by rw [q]; exact hf.r) he.ri hf.ri) ?_)
  by_cases hr : e.rk = f.rk
  · rw [decide_eq_true hr]
    obtain ⟨hw, hns⟩ := hc hr
    refine kat_yes (kat_cons (wpAny_eqBool_str ?_))
    rw [decide_eq_true hw]
    refine kat_yes (kat_cons (eqBool_ints hun (it_isList N he.o) (it_isList N hf.o) he.oi hf.oi (fun _ => hns) ?_))
    rw [decide_eq_true hns]
    refine kat_yes (kat_cons (wpAny_eqBool_int ?_))
    have hk : keyLt e.key f.key = decide (e.sz < f.sz) := by
      have := List.lt_irrefl f.rk
      simp [keyLt, Ent.key, hr, this]
    rw [hk] at h
    by_cases hs : e.sz = f.sz
    · have e1 : (e.sz == f.sz) = true := by simpa using hs
      rw [e1]
      refine kat_yes (kat_nil ?_)
      rw [decide_eq_false (by omega)] at h
      exact h
    · have e1 : (e.sz == f.sz) = false := by simpa using hs
      rw [e1]
      exact kat_no (kat_one _ _ (lt_ints h))
  · rw [decide_eq_false hr]
    have hk : keyLt e.key f.key = ltL e.rk f.rk := by
      rw [ltL_eq]; simp only [keyLt, Ent.key, hr, decide_false, Bool.false_and, Bool.or_false]; exact decide_eq_decide.mpr Iff.rfl
    rw [hk] at h
    exact kat_no (oneLt_ints (by omega) (it_isList N he.r) (it_isList N hf.r) he.ri hf.ri h)
theorem sz1 : 1 ≤ sizeLine := by unfold sizeLine; decide
theorem sorted_short {l : Addr} {v : Value} {Q : Value → Shared → Prop} (F : Fr h₀ L s.heap m) (N : News h₀ L s.heap news) (hl : s.heap.IsList l [v].toArray)
    (h : ∀ D c h', Fr h₀ L h' m → News h₀ L h' ((D, listOf [v].toArray c) :: news) → (∀ q ∈ news, q.1 < D) → Q (.ref D) { s with heap := h' }) :
    wpAny (model prog w) A (call (.builtin "sorted") [.ref l]) Q E s := by
  have key : ∀ (A : Around) (s : Shared) (a : Addr) (n : Nat) (P : PySem.Fin → Shared → Prop) (E : Value → Shared → Prop), Fr h₀ L s.heap m → News h₀ L s.heap news → s.heap.get? a = some (seqObj "list" [v].toArray n) → a ≠ L → h₀.get? a = none → (∀ p ∈ news, p.1 ≠ a) →
      (∀ h' c, Fr h₀ L h' m → News h₀ L h' ((a, listOf [v].toArray c) :: news) → P (.done (.ret .none)) { s with heap := h' }) → wpAny (model prog w) A (Builtin.«list.sort» ⟨[.ref a], []⟩) P E s := by
    intro A s a n P E F N ho haL ha0 hna hk
    have s1 := Heap.SameBut.update s.heap a (Obj.mapSeq fun _ => (#[] : Array Value))
    obtain ⟨e1, ho1⟩ : ∃ e1, (s.heap.update a (Obj.mapSeq fun _ => (#[] : Array Value))).get? a = some (seqObj "list" #[] e1) := ⟨_, get?_update_seq ho fun _ => #[]⟩
    have F3 : Fr h₀ L (((s.heap.update a (Obj.mapSeq fun _ => (#[] : Array Value))).push (seqObj "tuple" [v].toArray 0)).push (seqObj "list" #[] 0)) m := ((kas_fr F s1 haL ha0).push _).push _
    have N2 : News h₀ L (((s.heap.update a (Obj.mapSeq fun _ => (#[] : Array Value))).push (seqObj "tuple" [v].toArray 0)).push (seqObj "list" #[] 0)) news :=
      (kas_news N s1 hna).grown fun b x e => Heap.get?_push_of_some _ (Heap.get?_push_of_some _ e)
    have ho3 : (((s.heap.update a (Obj.mapSeq fun _ => (#[] : Array Value))).push (seqObj "tuple" [v].toArray 0)).push (seqObj "list" #[] 0)).get? a = some (seqObj "list" #[] e1) := Heap.get?_push_of_some _ (Heap.get?_push_of_some _ ho1)
    rw [list_sort_plain]
    refine wpAny_bind (listItems_at ho rfl ?_)
    refine wpAny_bind (listUpdate_at ho rfl ?_ sz1 (Nat.zero_le _))
    refine wpAny_bind (seqEpoch_at ho1 rfl ?_)
    refine wpAny_bind (wpAny_newTuple ?_ sz1)
    refine wpAny_bind (wpAny_newList ?_ (Nat.zero_le _))
    refine wpAny_holding ?_
    show wpAny (model prog w) A _ P E { s with heap := ((s.heap.update a (Obj.mapSeq fun _ => (#[] : Array Value))).push (seqObj "tuple" [v].toArray 0)).push (seqObj "list" #[] 0) }
    dsimp only
    rw [if_pos (show [v].toArray.size < 2 from (by decide : 1 < 2)), if_pos (show [v].toArray.size < 2 from (by decide : 1 < 2))]
    refine wpAny_bind (wpAny_pure ?_)
    rw [StateT.run_pure]
    refine wpAny_bind (wpAny_pure ?_)
    dsimp only
    have s2 := Heap.SameBut.update (((s.heap.update a (Obj.mapSeq fun _ => (#[] : Array Value))).push (seqObj "tuple" [v].toArray 0)).push (seqObj "list" #[] 0)) a (Obj.mapSeq fun _ => [v].toArray)
    obtain ⟨c2, hc2⟩ : ∃ c2, ((((s.heap.update a (Obj.mapSeq fun _ => (#[] : Array Value))).push (seqObj "tuple" [v].toArray 0)).push (seqObj "list" #[] 0)).update a (Obj.mapSeq fun _ => [v].toArray)).get? a = some (seqObj "list" [v].toArray c2) := ⟨_, get?_update_seq ho3 fun _ => [v].toArray⟩
    refine wpAny_bind (seqEpoch_at ho3 rfl ?_)
    have eo : (arrOf (SortSt.mk' general' ([v].toArray.zip [v].toArray) #[] 7 none)).map (·.2) = [v].toArray := by kernel_rfl
    rw [eo]
    refine wpAny_bind (listUpdate_at ho3 rfl ?_ (Nat.zero_le _) (Nat.le_succ_of_le sz1))
    simp only [bne_self_eq_false, Bool.false_eq_true, if_false]
    refine wpAny_pure (hk _ c2 (kas_fr F3 s2 haL ha0) ?_)
    exact fun p hp => by
      rcases List.mem_cons.mp hp with rfl | hp
      · exact ⟨hc2, haL, ha0⟩
      · exact kas_news N2 s2 hna p hp
  refine Calls.call_function_entry kind_sorted plain_sorted entry_sorted (args_sorted1 _) ?_
  unfold Builtin.«sorted»
  refine wpAny_bind (m := checkCount "sorted" 1 1 _) (wpAny_pure ?_)
  refine wpAny_bind (collect_list hl ?_ sz1)
  refine wpAny_bind (wpAny_newList ?_ sz1)
  have hsz : ((s.heap.push (seqObj "list" #[] 0)).update s.heap.objs.size (Obj.mapSeq (· ++ [v].toArray))).objs.size = s.heap.objs.size + 1 := by
    rw [Heap.size_update, size_push']
  have hoL : (((s.heap.push (seqObj "list" #[] 0)).update s.heap.objs.size (Obj.mapSeq (· ++ [v].toArray))).push (seqObj "list" [v].toArray 0)).get? (s.heap.objs.size + 1) = some (seqObj "list" [v].toArray 0) := by
    rw [← hsz]; exact Heap.get?_push_size _ rfl
  have keep : ∀ b o, s.heap.get? b = some o → (((s.heap.push (seqObj "list" #[] 0)).update s.heap.objs.size (Obj.mapSeq (· ++ [v].toArray))).push (seqObj "list" [v].toArray 0)).get? b = some o := fun b o q => by
    have hlt : b < s.heap.objs.size := Heap.lt_size q
    rw [Heap.get?_push_ne _ _ _ (by rw [hsz]; exact Nat.ne_of_lt (Nat.lt_succ_of_lt hlt)), Heap.get?_update_ne _ _ _ _ (Nat.ne_of_lt hlt), Heap.get?_push_ne _ _ _ (Nat.ne_of_lt hlt)]
    exact q
  have hL : L < s.heap.objs.size := F.ns.lt
  show wpAny _ _ _ _ _ { s with heap := ((s.heap.push (seqObj "list" #[] 0)).update s.heap.objs.size (Obj.mapSeq (· ++ [v].toArray))).push (seqObj "list" [v].toArray 0) }
  rw [hsz]
  refine wpAny_bind (wpAny_holding (wpAny_call_entry slot_list_sort ⟨_, hoL, rfl⟩ entry_list_sort ?body (args_list_sort _)))
  case body =>
    refine key _ { s with heap := ((s.heap.push (seqObj "list" #[] 0)).update s.heap.objs.size (Obj.mapSeq (· ++ [v].toArray))).push (seqObj "list" [v].toArray 0) } (s.heap.objs.size + 1) 0 _ _
      (F.kept keep) (N.grown keep) hoL (Nat.ne_of_gt (Nat.lt_succ_of_lt hL)) (Heap.get?_none_of_le (Nat.le_trans F.above (Nat.le_succ_of_le (Nat.le_of_lt hL))))
      (fun p hp => Nat.ne_of_lt (Nat.lt_succ_of_lt (Heap.lt_size (N p hp).1))) fun h' c F' N' => ?_
    exact ⟨_, rfl, wpAny_pure ⟨_, rfl, h _ c h' F' N' fun q hq => Nat.lt_succ_of_lt (Heap.lt_size (N q hq).1)⟩⟩
def refs (es : List Ent) : List Value := es.map fun e => .ref e.T
theorem sorted_ents {l : Addr} {es : List Ent} {n : Nat} {Q : Value → Shared → Prop} (hun : A.units + 80 < cLine) (F : Fr h₀ L s.heap m) (N : News h₀ L s.heap news) (hl : (l, listOf (refs es).toArray n) ∈ news) (h1 : 1 ≤ es.length) (h64 : es.length < 64)
    (hin : ∀ e ∈ es, EntIn news e) (hc : ∀ e ∈ es, ∀ f ∈ es, e.rk = f.rk → e.w = f.w ∧ e.ns = f.ns)
    (h : ∀ D c h' es', es'.Perm es → es'.Pairwise (fun a b => keyLt b.key a.key = false) → Fr h₀ L h' m → News h₀ L h' ((D, listOf (refs es').toArray c) :: news) → (∀ q ∈ news, q.1 < D) → Q (.ref D) { s with heap := h' }) :
    wpAny (model prog w) A (call (.builtin "sorted") [.ref l]) Q E s := by
  rcases Nat.lt_or_ge es.length 2 with hlt | h2
  · obtain ⟨e, rfl⟩ : ∃ e, es = [e] := by
      match es, h1, hlt with
      | [e], _, _ => exact ⟨e, rfl⟩
    exact sorted_short F N (it_isList N hl) fun D c h' F' N' l' => h D c h' [e] (.refl _) (List.pairwise_singleton _ _) F' N' l'
  · have hlen : (refs es).length = es.length := by simp [refs]
    refine kat_sorted F N (it_isList N hl) (by omega) (by omega) ?_
    intro D e1 h' F' N' l'
    have hin' : ∀ e ∈ es, EntIn ((D, seqObj "list" #[] e1) :: news) e := fun e he => (hin e he).mono fun p hp => .tail _ hp
    have kt : ∀ (l : List Ent), (∀ e ∈ l, e ∈ es) → KatTups h' (refs l) (l.map fun e => Value.ref e.R) := by
      intro l
      induction l with
      | nil => intro _; exact KatTups.nil
      | cons e l ih => intro hs; exact KatTups.cons (N' _ (hin' e (hs e (.head _))).t).1 rfl rfl rfl (ih fun e he => hs e (.tail _ he))
    refine kat_kind (s := { s with heap := h' }) (T := .type "list") (kt es fun _ h => h) (by simp; omega) ?_ (by decide) ?_
    · intro v hv
      obtain ⟨e, he, rfl⟩ := List.mem_map.1 hv
      exact (Looks.ld (N' _ (hin' e he).r).1).andThen .now
    · have hT : tuples' (Value.type "list" != Value.type "tuple") = tuples' true := by rfl
      rw [hT]
      obtain ⟨e0, he0⟩ : ∃ e0, e0 ∈ es := List.exists_mem_of_length_pos (by omega)
      have hg : ∀ i, i < es.length → es.getD i e0 ∈ es := fun i hi => by
        rw [List.getD_eq_getElem?_getD, List.getElem?_eq_getElem hi]; exact List.getElem_mem hi
      have ht : ∀ i, i < es.length → (refs es).getD i Value.none = .ref (es.getD i e0).T := fun i hi => by
        simp [refs, List.getD_eq_getElem?_getD, hi]
      have hk : ∀ i j, i < es.length → keyLt (es.getD i e0).key (es.getD j e0).key = kr (fun i => rankI (es.map Ent.key) (es.getD i e0).key) i j := fun i j hi =>
        rank_lt (List.mem_map_of_mem (hg i hi))
      rw [hlen]
      refine wp_runR (r := kr (fun i => rankI (es.map Ent.key) (es.getD i e0).key)) (N := es.length) (I := fun s' => s' = { s with heap := h' }) ?_ _ _ (sort_ask _ h1) rfl ?_
      · rintro i j C s' hi hj rfl hC
        show wpAny _ _ (keyLt' (tuples' true) ((refs es).getD i Value.none) ((refs es).getD j Value.none)) _ _ _
        rw [ht i hi, ht j hj]
        refine ent_lt (by show A.units + 1 + 1 + 64 < cLine; omega) N' (hin' _ (hg i hi)) (hin' _ (hg j hj)) (hc _ (hg i hi) _ (hg j hj)) ?_
        rw [hk i j hi]
        exact hC _ rfl
      · rintro s' rfl
        have hs := sort_spec (fun i => rankI (es.map Ent.key) (es.getD i e0).key) (n := es.length) h1
        generalize runT (kr (fun i => rankI (es.map Ent.key) (es.getD i e0).key)) (kas_sort es.length) = p at hs
        obtain ⟨p1, p2⟩ := hs
        have hpm : ∀ x ∈ p.toList, x < es.length := fun x hx => by
          have := p1.mem_iff.1 (Array.mem_toList_iff.1 hx); simpa using this
        have hps : p.size = es.length := by have := p1.size_eq; simpa using this
        have eo : (p.toList.map fun i => (refs es).getD i Value.none) = refs (p.toList.map fun i => es.getD i e0) := by
          unfold refs
          rw [List.map_map]
          exact List.map_congr_left fun i hi => ht i (hpm i hi)
        refine KasFin.intro F' N' (UpdF.head fun q hq => Nat.ne_of_lt (l' q hq)) ?_
        intro h2 c F2 N2
        rw [eo] at N2
        refine h D c h2 _ ?_ ?_ F2 N2 l'
        · have q1 : (p.toList.map fun i => es.getD i e0).Perm ((List.range es.length).map fun i => es.getD i e0) := (Array.perm_iff_toList_perm.1 p1).map _
          have q2 : ((List.range es.length).map fun i => es.getD i e0) = es := by
            apply List.ext_getElem
            · simp
            · intro i h1 h2
              simp [List.getD_eq_getElem?_getD, h2]
          rw [q2] at q1; exact q1
        · rw [List.pairwise_map, List.pairwise_iff_getElem]
          intro i j hi hj hij
          have hi' : i < p.size := by simpa using hi
          have hj' : j < p.size := by simpa using hj
          have := p2.le _ (Nat.le_of_lt hij) (by omega)
          unfold atK at this
          rw [Array.getD_eq_getD_getElem?, Array.getD_eq_getD_getElem?, Array.getElem?_eq_getElem hi', Array.getElem?_eq_getElem hj'] at this
          have hjl : p.toList[j] < es.length := hpm _ (List.getElem_mem hj)
          rw [hk _ _ hjl]
          unfold kr
          apply decide_eq_false
          simp only [Option.getD_some] at this
          rw [Array.getElem_toList, Array.getElem_toList]
          exact Int.not_lt.mpr this
end

end -- WEnt
section -- WPure
theorem consN {a b : Nat} {l m : List Nat} : (a :: l < b :: m) ↔ a < b ∨ a = b ∧ l < m := List.cons_lt_cons_iff
theorem consI {a b : Int} {l m : List Int} : (a :: l < b :: m) ↔ a < b ∨ a = b ∧ l < m := List.cons_lt_cons_iff
def signN (o : Nat) : List Nat := if o == 32 then [95] else if asIs o then [o] else [61, hexd (o / 16), hexd (o % 16)]
theorem signN_eq : ∀ n : Nat, n < 256 → (signS (n : Int)).cps.toList = signN n := by decide +kernel
def rankN (o : Nat) : Int := if o == 32 then 256 * 95 else if asIs o then 256 * o else 256 * 61 + o
theorem rankN_eq : ∀ n : Nat, n < 256 → rankL (n : Int) = rankN n := by decide +kernel
theorem asIs_not : ∀ n : Nat, n < 256 → asIs (n : Int) = true → n ≠ 61 ∧ n ≠ 63 ∧ n ≠ 95 ∧ n ≠ 32 := by decide +kernel
theorem hexd_mono : ∀ a : Nat, a < 16 → ∀ b : Nat, b < 16 → (hexd a < hexd b ↔ a < b) ∧ (hexd a = hexd b ↔ a = b) := by decide +kernel
inductive TokK (o : Nat) : List Nat → Int → Prop
  | blank : o = 32 → TokK o [95] (256 * 95)
  | plain : o ≠ 32 → o ≠ 61 → o ≠ 63 → o ≠ 95 → TokK o [o] (256 * o)
  | esc : TokK o [61, hexd (o / 16), hexd (o % 16)] (256 * 61 + o)
theorem tokK {o : Nat} (ho : o < 256) : TokK o (signN o) (rankN o) := by
  unfold signN rankN
  by_cases h : (o == 32) = true
  · rw [if_pos h, if_pos h]; exact .blank (by simpa using h)
  · rw [if_neg h, if_neg h]
    cases ha : asIs (o : Int) with
    | true =>
      have := asIs_not o ho ha
      simp only [if_true]
      exact .plain (by simpa using h) this.1 this.2.1 this.2.2.1
    | false => simp only [Bool.false_eq_true, if_false]; exact .esc
theorem tok_lt {a b : Nat} (ha : a < 256) (hb : b < 256) (hab : a ≠ b) (x y : List Nat) (X Y : List Int) : (signN a ++ x < signN b ++ y) ↔ (rankN a :: X < rankN b :: Y) := by
  have ka := tokK ha
  have kb := tokK hb
  generalize signN a = sa at ka
  generalize rankN a = ra at ka
  generalize signN b = sb at kb
  generalize rankN b = rb at kb
  rw [consI]
  have d1 : a / 16 < 16 := by omega
  have d2 : b / 16 < 16 := by omega
  have d3 : a % 16 < 16 := by omega
  have d4 : b % 16 < 16 := by omega
  cases ka with
  | blank h1 =>
    cases kb with
    | blank h2 => omega
    | plain g1 g2 g3 g4 => show (95 :: x < b :: y) ↔ _; rw [consN]; omega
    | esc => show (95 :: x < 61 :: _) ↔ _; rw [consN]; omega
  | plain h1 h2 h3 h4 =>
    cases kb with
    | blank g => show (a :: x < 95 :: y) ↔ _; rw [consN]; omega
    | plain g1 g2 g3 g4 => show (a :: x < b :: y) ↔ _; rw [consN]; omega
    | esc => show (a :: x < 61 :: _) ↔ _; rw [consN]; omega
  | esc =>
    cases kb with
    | blank g => show (61 :: _ < 95 :: y) ↔ _; rw [consN]; omega
    | plain g1 g2 g3 g4 => show (61 :: _ < b :: y) ↔ _; rw [consN]; omega
    | esc =>
      show (61 :: hexd (a / 16) :: hexd (a % 16) :: x < 61 :: hexd (b / 16) :: hexd (b % 16) :: y) ↔ _
      rw [consN, consN, consN]
      have m1 := hexd_mono (a / 16) d1 (b / 16) d2
      have m2 := hexd_mono (a % 16) d3 (b % 16) d4
      rw [m1.1, m1.2, m2.1, m2.2]
      omega
theorem end_lt {b : Nat} (hb : b < 256) (x y : List Nat) (X Y : List Int) : ((63 :: x < signN b ++ y) ↔ (256 * 63 :: X < rankN b :: Y)) ∧ ((signN b ++ y < 63 :: x) ↔ (rankN b :: Y < 256 * 63 :: X)) := by
  have kb := tokK hb
  generalize signN b = sb at kb
  generalize rankN b = rb at kb
  rw [consI, consI]
  cases kb with
  | blank h => show ((63 :: x < 95 :: y) ↔ _) ∧ ((95 :: y < 63 :: x) ↔ _); rw [consN, consN]; omega
  | plain g1 g2 g3 g4 => show ((63 :: x < b :: y) ↔ _) ∧ ((b :: y < 63 :: x) ↔ _); rw [consN, consN]; omega
  | esc => show ((63 :: x < 61 :: _) ↔ _) ∧ ((61 :: _ < 63 :: x) ↔ _); rw [consN, consN]; omega
theorem app_lt (p : List Nat) {x y : List Nat} : (p ++ x < p ++ y) ↔ (x < y) := by
  induction p with
  | nil => exact Iff.rfl
  | cons a p ih => rw [List.cons_append, List.cons_append, consN]; rw [ih]; simp
theorem octs_lt : ∀ (ns ms : List Nat), (∀ o ∈ ns, o < 256) → (∀ o ∈ ms, o < 256) → ((ns.flatMap signN ++ [63, 61] < ms.flatMap signN ++ [63, 61]) ↔ (ns.map rankN ++ [256 * 63] < ms.map rankN ++ [256 * 63]))
  | [], [], _, _ => by
    have h1 := List.lt_irrefl ([63, 61] : List Nat)
    have h2 := List.lt_irrefl ([256 * 63] : List Int)
    constructor
    · intro h; exact absurd h h1
    · intro h; exact absurd h h2
  | [], b :: ms, _, hm => by
    rw [List.flatMap_cons, List.append_assoc]
    exact (end_lt (hm b (.head _)) [61] _ [] _).1
  | a :: ns, [], hn, _ => by
    rw [List.flatMap_cons, List.append_assoc]
    exact (end_lt (hn a (.head _)) [61] _ [] _).2
  | a :: ns, b :: ms, hn, hm => by
    rw [List.flatMap_cons, List.flatMap_cons, List.append_assoc, List.append_assoc, List.map_cons, List.map_cons, List.cons_append, List.cons_append]
    by_cases hab : a = b
    · subst hab
      rw [app_lt, consI, octs_lt ns ms (fun o h => hn o (.tail _ h)) (fun o h => hm o (.tail _ h))]
      simp
    · exact tok_lt (hn a (.head _)) (hm b (.head _)) hab _ _ _ _
theorem chars_lt {x y : List Nat} {X Y : List Int} : ∀ (c d : List Nat), 63 ∉ c → 63 ∉ d → (c = d → ((x < y) ↔ (X < Y))) →
    ((c ++ 63 :: x < d ++ 63 :: y) ↔ (c.map (fun (k : Nat) => 256 * (k : Int)) ++ 256 * 63 :: X < d.map (fun (k : Nat) => 256 * (k : Int)) ++ 256 * 63 :: Y))
  | [], [], _, _, h => by
    show (63 :: x < 63 :: y) ↔ (256 * 63 :: X < 256 * 63 :: Y)
    rw [consN, consI, h rfl]; simp
  | [], b :: d, _, hd, _ => by
    have : b ≠ 63 := fun e => hd (e ▸ List.mem_cons_self ..)
    show (63 :: x < b :: _) ↔ (256 * 63 :: X < 256 * (b : Int) :: _)
    rw [consN, consI]; omega
  | a :: c, [], hc, _, _ => by
    have : a ≠ 63 := fun e => hc (e ▸ List.mem_cons_self ..)
    show (a :: _ < 63 :: y) ↔ (256 * (a : Int) :: _ < 256 * 63 :: Y)
    rw [consN, consI]; omega
  | a :: c, b :: d, hc, hd, h => by
    rw [List.cons_append, List.cons_append, List.map_cons, List.map_cons, List.cons_append, List.cons_append, consN, consI]
    by_cases hab : a = b
    · subst hab
      have ih := chars_lt c d (fun m => hc (List.mem_cons_of_mem _ m)) (fun m => hd (List.mem_cons_of_mem _ m)) (fun e => h (by rw [e]))
      rw [ih]; simp
    · constructor
      · intro q; rcases q with q | q
        · exact .inl (by omega)
        · exact absurd q.1 hab
      · intro q; rcases q with q | q
        · exact .inl (by omega)
        · exact absurd (by omega) hab
theorem flat_sign {ns : List Int} (hn : ∀ o ∈ ns, 0 ≤ o ∧ o < 256) : ns.flatMap (fun o => (signS o).cps.toList) = (ns.map Int.toNat).flatMap signN ∧ ns.map rankL = (ns.map Int.toNat).map rankN ∧ ∀ o ∈ ns.map Int.toNat, o < 256 := by
  induction ns with
  | nil => exact ⟨rfl, rfl, fun _ h => by simp at h⟩
  | cons o l ih =>
    have ho := hn o (.head _)
    obtain ⟨i1, i2, i3⟩ := ih (fun o h => hn o (.tail _ h))
    have e : ((o.toNat : Nat) : Int) = o := Int.toNat_of_nonneg ho.1
    refine ⟨?_, ?_, ?_⟩
    · rw [List.flatMap_cons, i1, List.map_cons, List.flatMap_cons, ← signN_eq o.toNat (by omega), e]
    · rw [List.map_cons, i2, List.map_cons, List.map_cons, ← rankN_eq o.toNat (by omega), e]
    · intro k hk
      rw [List.map_cons] at hk
      rcases List.mem_cons.mp hk with rfl | hk
      · omega
      · exact i3 k hk
theorem word_cps {ns : List Int} {c : Str} (h0 : ¬ ns = []) : (wordS ns c).cps.toList = 61 :: 63 :: (c.cps.toList ++ 63 :: 113 :: 63 :: (ns.flatMap (fun o => (signS o).cps.toList) ++ [63, 61])) := by
  unfold wordS
  rw [if_neg h0, str_app, fold_sign, str_app, str_app]
  have e1 : (Str.ofString "=?").cps.toList = [61, 63] := by decide +kernel
  have e2 : (Str.ofString "?q?").cps.toList = [63, 113, 63] := by decide +kernel
  have e3 : (Str.ofString "?=").cps.toList = [63, 61] := by decide +kernel
  rw [e1, e2, e3]
  simp
theorem word_nil (c : Str) : (wordS [] c).cps.toList = [] := by
  have : (Str.ofString "").cps.toList = [] := by decide +kernel
  unfold wordS
  rw [if_pos rfl]; exact this
theorem ranks_of {ns : List Int} {c : Str} (h0 : ¬ ns = []) : ranksL ns c = c.cps.toList.map (fun (k : Nat) => 256 * (k : Int)) ++ 256 * 63 :: (ns.map rankL ++ [256 * 63]) := by
  unfold ranksL; rw [if_neg h0]; simp
theorem word_lt {ns ms : List Int} {c d : Str} (hn : ∀ o ∈ ns, 0 ≤ o ∧ o < 256) (hm : ∀ o ∈ ms, 0 ≤ o ∧ o < 256) (hc : 63 ∉ c.cps.toList) (hd : 63 ∉ d.cps.toList) :
    ((wordS ns c).cps.toList < (wordS ms d).cps.toList) ↔ (ranksL ns c < ranksL ms d) := by
  by_cases h1 : ns = []
  · subst h1
    rw [word_nil]
    have e : ranksL [] c = [] := by unfold ranksL; rw [if_pos rfl]
    rw [e]
    by_cases h2 : ms = []
    · subst h2
      rw [word_nil]
      have e : ranksL [] d = [] := by unfold ranksL; rw [if_pos rfl]
      rw [e]; simp
    · rw [word_cps h2, ranks_of h2]
      constructor
      · intro _
        cases d.cps.toList with
        | nil => simp
        | cons => simp
      · intro _; simp
  · by_cases h2 : ms = []
    · subst h2
      rw [word_nil]
      have e : ranksL [] d = [] := by unfold ranksL; rw [if_pos rfl]
      rw [e]; simp
    · rw [word_cps h1, word_cps h2, ranks_of h1, ranks_of h2]
      obtain ⟨n1, n2, n3⟩ := flat_sign hn
      obtain ⟨m1, m2, m3⟩ := flat_sign hm
      rw [n1, m1, n2, m2, consN, consN]
      simp only [Nat.lt_irrefl, true_and, false_or]
      refine chars_lt _ _ hc hd (fun _ => ?_)
      rw [consN, consN]
      simp only [Nat.lt_irrefl, true_and, false_or]
      exact octs_lt _ _ n3 m3
theorem not_lt_eq {a b : List Int} (h1 : ¬ a < b) (h2 : ¬ b < a) : a = b := List.le_antisymm (List.not_lt.mp h2) (List.not_lt.mp h1)
theorem ranks_word {ns ms : List Int} {c d : Str} (hn : ∀ o ∈ ns, 0 ≤ o ∧ o < 256) (hm : ∀ o ∈ ms, 0 ≤ o ∧ o < 256) (hc : 63 ∉ c.cps.toList) (hd : 63 ∉ d.cps.toList) (h : ranksL ns c = ranksL ms d) : wordS ns c = wordS ms d := by
  apply str_ext
  have i1 : ¬ (wordS ns c).cps.toList < (wordS ms d).cps.toList := fun q => by
    have := (word_lt hn hm hc hd).1 q; rw [h] at this; exact List.lt_irrefl _ this
  have i2 : ¬ (wordS ms d).cps.toList < (wordS ns c).cps.toList := fun q => by
    have := (word_lt hm hn hd hc).1 q; rw [h] at this; exact List.lt_irrefl _ this
  exact List.le_antisymm (List.not_lt.mp i2) (List.not_lt.mp i1)
theorem rankN_inj {a b : Nat} (ha : a < 256) (hb : b < 256) (h : rankN a = rankN b) : a = b := by
  have ka := tokK ha
  have kb := tokK hb
  generalize signN a = sa at ka
  generalize rankN a = ra at ka h
  generalize signN b = sb at kb
  generalize rankN b = rb at kb h
  cases ka <;> cases kb <;> omega
theorem ranks_inj : ∀ (ns ms : List Nat), (∀ o ∈ ns, o < 256) → (∀ o ∈ ms, o < 256) → ns.map rankN = ms.map rankN → ns = ms
  | [], [], _, _, _ => rfl
  | [], _ :: _, _, _, h => by simp at h
  | _ :: _, [], _, _, h => by simp at h
  | a :: ns, b :: ms, hn, hm, h => by
    simp only [List.map_cons, List.cons.injEq] at h
    rw [rankN_inj (hn a (.head _)) (hm b (.head _)) h.1, ranks_inj ns ms (fun o h => hn o (.tail _ h)) (fun o h => hm o (.tail _ h)) h.2]
theorem chars_eq {X Y : List Int} : ∀ (c d : List Nat), 63 ∉ c → 63 ∉ d → c.map (fun (k : Nat) => 256 * (k : Int)) ++ 256 * 63 :: X = d.map (fun (k : Nat) => 256 * (k : Int)) ++ 256 * 63 :: Y → c = d ∧ X = Y
  | [], [], _, _, h => by simp at h; exact ⟨rfl, h⟩
  | [], b :: d, _, hd, h => by
    have : b ≠ 63 := fun e => hd (e ▸ List.mem_cons_self ..)
    simp at h; omega
  | a :: c, [], hc, _, h => by
    have : a ≠ 63 := fun e => hc (e ▸ List.mem_cons_self ..)
    simp at h; omega
  | a :: c, b :: d, hc, hd, h => by
    rw [List.map_cons, List.map_cons, List.cons_append, List.cons_append, List.cons.injEq] at h
    obtain ⟨i1, i2⟩ := chars_eq c d (fun m => hc (List.mem_cons_of_mem _ m)) (fun m => hd (List.mem_cons_of_mem _ m)) h.2
    exact ⟨by rw [i1, show a = b by omega], i2⟩
theorem ranks_octets {ns ms : List Int} {c d : Str} (hn : ∀ o ∈ ns, 0 ≤ o ∧ o < 256) (hm : ∀ o ∈ ms, 0 ≤ o ∧ o < 256) (hc : 63 ∉ c.cps.toList) (hd : 63 ∉ d.cps.toList) (h : ranksL ns c = ranksL ms d) : ns = ms := by
  have hnil : ∀ (e : Str), ranksL [] e = [] := fun e => by unfold ranksL; rw [if_pos rfl]
  by_cases h1 : ns = []
  · subst h1
    by_cases h2 : ms = []
    · exact h2.symm
    · rw [hnil, ranks_of h2] at h
      cases hq : d.cps.toList with
      | nil => rw [hq] at h; simp at h
      | cons => rw [hq] at h; simp at h
  · by_cases h2 : ms = []
    · subst h2
      rw [hnil, ranks_of h1] at h
      cases hq : c.cps.toList with
      | nil => rw [hq] at h; simp at h
      | cons => rw [hq] at h; simp at h
    · rw [ranks_of h1, ranks_of h2] at h
      obtain ⟨_, i2⟩ := chars_eq _ _ hc hd h
      obtain ⟨_, n2, n3⟩ := flat_sign hn
      obtain ⟨_, m2, m3⟩ := flat_sign hm
      have i3 := List.append_cancel_right i2
      rw [n2, m2] at i3
      have i4 := ranks_inj _ _ n3 m3 i3
      have back : ∀ l : List Int, (∀ o ∈ l, 0 ≤ o ∧ o < 256) → (l.map Int.toNat).map (fun (k : Nat) => (k : Int)) = l := by
        intro l hl
        rw [List.map_map]
        conv => rhs; rw [← List.map_id l]
        exact List.map_congr_left fun o ho => Int.toNat_of_nonneg (hl o ho).1
      rw [← back ns hn, ← back ms hm, i4]

end -- WPure
section -- WRow
structure Val (e : Ent) (c : Str) : Prop where
  q : 63 ∉ c.cps.toList
  sz : (c.length : Int) = e.sz
  len : c.length ≤ 20
  rk : e.rk = ranksL e.ns c
  w : e.w = wordS e.ns c
  oct : ∀ o ∈ e.ns, 0 ≤ o ∧ o < 256
  six : e.ns.length ≤ 6
def Rows (nw : List (Addr × Obj)) (es : List Ent) : Prop := ∀ e ∈ es, EntIn nw e ∧ ∃ c, Val e c
theorem Rows.mono {nw nw' : List (Addr × Obj)} {es : List Ent} (h : Rows nw es) (hs : ∀ p ∈ nw, p ∈ nw') : Rows nw' es := fun e he => ⟨(h e he).1.mono hs, (h e he).2⟩
theorem Rows.same {nw : List (Addr × Obj)} {es : List Ent} (h : Rows nw es) : ∀ e ∈ es, ∀ f ∈ es, e.rk = f.rk → e.w = f.w ∧ e.ns = f.ns := by
  intro e he f hf hr
  obtain ⟨_, c, ve⟩ := h e he
  obtain ⟨_, d, vf⟩ := h f hf
  rw [ve.rk, vf.rk] at hr
  rw [ve.w, vf.w]
  exact ⟨ranks_word ve.oct vf.oct ve.q vf.q hr, ranks_octets ve.oct vf.oct ve.q vf.q hr⟩
theorem Val.lt {e f : Ent} {c d : Str} (ve : Val e c) (vf : Val f d) : (e.w.cps.toList < f.w.cps.toList) ↔ (e.rk < f.rk) := by
  rw [ve.w, vf.w, ve.rk, vf.rk]
  exact word_lt ve.oct vf.oct ve.q vf.q
structure Oct where
  D : Addr
  vs : List Value
  n : Nat
  ns : List Int
structure OctIn (nw : List (Addr × Obj)) (o : Oct) : Prop where
  m : (o.D, listOf o.vs.toArray o.n) ∈ nw
  i : IntsAre o.vs o.ns
  b : ∀ x ∈ o.ns, 0 ≤ x ∧ x < 256
  six : o.ns.length ≤ 6
theorem OctIn.mono {nw nw' : List (Addr × Obj)} {o : Oct} (h : OctIn nw o) (hs : ∀ p ∈ nw, p ∈ nw') : OctIn nw' o := ⟨hs _ h.m, h.i, h.b, h.six⟩
def Heapy (xs : List (Str × Tok)) (es : List Ent) : Prop := (xs.map (·.1)).Perm (es.map Ent.w)
def csObj (t : Nat → Tok) : Obj := listOf #[.str (Str.ofString "") (t 0), .str (Str.ofString "") (t 1), .str (Str.ofString "") (t 2), .str (Str.ofString "") (t 3), .str (Str.ofString "a") (t 4), .str (Str.ofString "a-") (t 5), .str (Str.ofString "ab") (t 6)] 0
theorem for_go {prog : Program} {w : World} {A : Around} {E : Value → Shared → Prop} {s : Shared} {env : Env} {x : Str} {body : List Stmt} {Q : Flow → Shared → Prop} {h₀ h₁ : Heap} {L : Addr} {m : Str → Option Value} {px pos : Pos} {iter : Expr} (_F : Fr h₀ L h₁ m)
    (hx : env.kindOf x = some .local) (hp : (env.scope.kind == .class || (env.scope.kind == .module && env.locals != env.globals)) = false)
    (hs : ∀ x, foldedSetIterable iter env x = pure x) (hE : PassesOwn (model prog w) A env E)
    (h : wpAny (model prog w) A (eval iter env) (fun xv s₁ => wpAny (model prog w) A (pyIter xv) (fun it s₂ => LoopAtV prog w A h₀ env x body Q E it s₂) E s₁) E s) :
    wpAny (model prog w) A (exec (.For (.Name x px) iter body [] pos) env) Q E s := For_invV h₀ hx hp h hs hE
theorem news_start6 {h₀ h : Heap} {L : Addr} {p0 p6 p5 p4 p3 p2 p1 pR pH pC : Addr × Obj} (N : News h₀ L h [p0, p6, p5, p4, p3, p2, p1, pR, pH, pC]) : News h₀ L h [pH, pR, p0, p6, p5, p4, p3, p2, p1, pC] := news_of_sub N (by
  intro q hq
  simp only [List.mem_cons, List.not_mem_nil, or_false] at hq ⊢
  rcases hq with h | h | h | h | h | h | h | h | h | h <;> simp [h])
def J0 (hp RA CS D0 OL : Addr) (oO : Obj) (r : List Value) (m : Str → Option Value) (nw : List (Addr × Obj)) : Prop :=
  ∃ (os : List Oct) (xs : List (Str × Tok)) (hn : Nat) (es : List Ent) (rn : Nat) (led : List (Addr × Obj)), nw = (hp, slist xs hn) :: (RA, listOf (refs es).toArray rn) :: led ∧ r = os.map (fun o => Value.ref o.D) ∧ (∀ o ∈ os, OctIn led o) ∧
    m (Str.ofString "heap") = some (.ref hp) ∧ m (Str.ofString "row") = some (.ref RA) ∧ m (Str.ofString "charsets") = some (.ref CS) ∧ m (Str.ofString "script") = some (.ref D0) ∧
    (∃ t, (CS, csObj t) ∈ led) ∧ (OL, oO) ∈ led ∧ (∀ q ∈ led, q.1 ≠ hp ∧ q.1 ≠ RA) ∧ Rows led es ∧ xs.map (·.1) = es.map Ent.w ∧ es.length + os.length = 6
theorem J0_start {hp RA CS D0 OL O1 O2 O3 O4 O5 O6 : Addr} {a1 a2 a3 a4 a5 a6 a7 a8 : Tok} {t : Nat → Tok} {m : Str → Option Value}
    (m1 : m (Str.ofString "heap") = some (.ref hp)) (m2 : m (Str.ofString "row") = some (.ref RA)) (m3 : m (Str.ofString "charsets") = some (.ref CS)) (m4 : m (Str.ofString "script") = some (.ref D0))
    (hne : ∀ q ∈ [OL, O6, O5, O4, O3, O2, O1, CS], q ≠ hp ∧ q ≠ RA) :
    J0 hp RA CS D0 OL (listOf [Value.ref O1, Value.ref O2, Value.ref O3, Value.ref O4, Value.ref O5, Value.ref O6].toArray 0) [Value.ref O1, Value.ref O2, Value.ref O3, Value.ref O4, Value.ref O5, Value.ref O6] m
      [(hp, listOf #[] 0), (RA, listOf #[] 0), (OL, listOf #[Value.ref O1, Value.ref O2, Value.ref O3, Value.ref O4, Value.ref O5, Value.ref O6] 0), (O6, listOf #[.int 97 a7, .int 61 a8] 0), (O5, listOf #[] 0), (O4, listOf #[.int 65 a6] 0),
        (O3, listOf #[.int 97 a4, .int 122 a5] 0), (O2, listOf #[.int 97 a2, .int 32 a3] 0), (O1, listOf #[.int 97 a1] 0), (CS, csObj t)] := by
  refine ⟨[⟨O1, [.int 97 a1], 0, [97]⟩, ⟨O2, [.int 97 a2, .int 32 a3], 0, [97, 32]⟩, ⟨O3, [.int 97 a4, .int 122 a5], 0, [97, 122]⟩, ⟨O4, [.int 65 a6], 0, [65]⟩, ⟨O5, [], 0, []⟩, ⟨O6, [.int 97 a7, .int 61 a8], 0, [97, 61]⟩], [], 0, [], 0, _, rfl, rfl, ?_, m1, m2, m3, m4, ⟨t, by simp⟩, .head _, ?_, fun _ h => absurd h List.not_mem_nil, rfl, rfl⟩
  · intro o ho
    simp only [List.mem_cons, List.not_mem_nil, or_false] at ho
    rcases ho with rfl | rfl | rfl | rfl | rfl | rfl
    · exact ⟨by simp, .cons _ _ .nil, (by dsimp only; decide), (by dsimp only; decide)⟩
    · exact ⟨by simp, .cons _ _ (.cons _ _ .nil), (by dsimp only; decide), (by dsimp only; decide)⟩
    · exact ⟨by simp, .cons _ _ (.cons _ _ .nil), (by dsimp only; decide), (by dsimp only; decide)⟩
    · exact ⟨by simp, .cons _ _ .nil, (by dsimp only; decide), (by dsimp only; decide)⟩
    · exact ⟨by simp, .nil, (by dsimp only; decide), (by dsimp only; decide)⟩
    · exact ⟨by simp, .cons _ _ (.cons _ _ .nil), (by dsimp only; decide), (by dsimp only; decide)⟩
  · intro q hq
    apply hne
    simp only [List.mem_cons, List.not_mem_nil, or_false] at hq ⊢
    rcases hq with rfl | rfl | rfl | rfl | rfl | rfl | rfl | rfl <;> simp
theorem it_appendS {prog : Program} {w : World} {A : Around} {E : Value → Shared → Prop} {s : Shared} {h₀ : Heap} {L : Addr} {m : Str → Option Value} {news : List (Addr × Obj)} {hp : Addr} {xs : List (Str × Tok)} {n : Nat} {x : Str} {t : Tok} {g : Obj → List (Addr × Obj)} {Q : Value → Shared → Prop} (F : Fr h₀ L s.heap m) (N : News h₀ L s.heap news) (U : UpdF hp (slist xs n) news g) (hfit : xs.length < 1000000)
    (h : ∀ h', Fr h₀ L h' m → News h₀ L h' (g (slist (xs ++ [(x, t)]) (n + 1))) → Q .none { s with heap := h' }) :
    wpAny (model prog w) A (call (.builtin "list.append") [.ref hp, .str x t]) Q E s := it_appendU (x := (x, t)) F N U hfit h
theorem news_turn6 {h₀ h : Heap} {L : Addr} {pT pR pI pH pA : Addr × Obj} {led : List (Addr × Obj)} (N : News h₀ L h (pT :: pR :: pI :: pH :: pA :: led)) : News h₀ L h (pI :: pH :: pA :: pT :: pR :: led) := news_of_sub N (by
  intro q hq
  simp only [List.mem_cons] at hq ⊢
  rcases hq with h | h | h | h | h | h <;> simp [h])
theorem iso_ok : 63 ∉ (Str.ofString "iso-8859-1").cps.toList ∧ (Str.ofString "iso-8859-1").length = 10 := by decide +kernel
theorem refs_snoc (es : List Ent) (e : Ent) : refs (es ++ [e]) = refs es ++ [.ref e.T] := by simp [refs]
theorem rows_snoc {nw : List (Addr × Obj)} {es : List Ent} {e : Ent} {c : Str} (h : Rows nw es) (he : EntIn nw e) (v : Val e c) : Rows nw (es ++ [e]) := fun f hf => by
  rcases List.mem_append.mp hf with hf | hf
  · exact h f hf
  · rw [List.mem_singleton.mp hf]; exact ⟨he, c, v⟩
theorem J0_step {hp RA CS D0 OL T R : Addr} {oO : Obj} {os : List Oct} {o : Oct} {xs : List (Str × Tok)} {hn rn k : Nat} {es : List Ent} {led : List (Addr × Obj)} {m : Str → Option Value} {us : List Value} {t1 t2 t3 : Tok}
    (ho : OctIn led o) (hos : ∀ o ∈ os, OctIn led o) (m1 : m (Str.ofString "heap") = some (.ref hp)) (m2 : m (Str.ofString "row") = some (.ref RA)) (m3 : m (Str.ofString "charsets") = some (.ref CS)) (m4 : m (Str.ofString "script") = some (.ref D0))
    (hCS : ∃ t, (CS, csObj t) ∈ led) (hOL : (OL, oO) ∈ led) (hled : ∀ q ∈ led, q.1 ≠ hp ∧ q.1 ≠ RA) (hrows : Rows led es) (hxe : xs.map (·.1) = es.map Ent.w) (hln : es.length + (o :: os).length = 6)
    (hT : T ≠ hp ∧ T ≠ RA) (hR : R ≠ hp ∧ R ≠ RA) (hus : IntsAre us (ranksL o.ns (Str.ofString "iso-8859-1"))) :
    J0 hp RA CS D0 OL oO (os.map fun o => Value.ref o.D) m ((hp, slist (xs ++ [(wordS o.ns (Str.ofString "iso-8859-1"), t1)]) (hn + 1)) :: (RA, listOf (refs es ++ [Value.ref T]).toArray (rn + 1)) ::
      (T, { cls := .type "tuple", data := .seq #[.ref R, .str (wordS o.ns (Str.ofString "iso-8859-1")) t2, .ref o.D, .int 10 t3] }) :: (R, listOf us.toArray k) :: led) := by
  have sub : ∀ p ∈ led, p ∈ (T, { cls := .type "tuple", data := .seq #[.ref R, .str (wordS o.ns (Str.ofString "iso-8859-1")) t2, .ref o.D, .int 10 t3] }) :: (R, listOf us.toArray k) :: led := fun p hp => .tail _ (.tail _ hp)
  refine ⟨os, xs ++ [(wordS o.ns (Str.ofString "iso-8859-1"), t1)], hn + 1, es ++ [⟨T, R, o.D, us, o.vs, k, o.n, wordS o.ns (Str.ofString "iso-8859-1"), t2, 10, t3, ranksL o.ns (Str.ofString "iso-8859-1"), o.ns⟩], rn + 1, _, (by rw [refs_snoc]), rfl, fun o h => (hos o h).mono sub, m1, m2, m3, m4, ?_, sub _ hOL, ?_, ?_, ?_, ?_⟩
  · obtain ⟨t, ht⟩ := hCS; exact ⟨t, sub _ ht⟩
  · intro q hq
    rcases List.mem_cons.mp hq with rfl | hq
    · exact hT
    rcases List.mem_cons.mp hq with rfl | hq
    · exact hR
    · exact hled q hq
  · refine rows_snoc (hrows.mono sub) ⟨.head _, .tail _ (.head _), sub _ ho.m, hus, ho.i⟩ (c := Str.ofString "iso-8859-1") ⟨iso_ok.1, by rw [iso_ok.2]; rfl, by rw [iso_ok.2]; decide, rfl, rfl, ho.b, ho.six⟩
  · rw [List.map_append, List.map_append, hxe]; rfl
  · simp only [List.length_append, List.length_cons, List.length_nil] at hln ⊢; omega

end -- WRow
section -- WCut
def JoinQ (I : Shared → Prop) (f : Flow) (s : Shared) : Prop := f = .next ∧ I s
theorem stmt_join {M : Model} {A : Around} {E : Value → Shared → Prop} {s : Shared} {env : Env} {st : Stmt} {rest : List Stmt} {Q : Flow → Shared → Prop} (I : Shared → Prop)
    (h : wpAny M A (exec st env) (JoinQ I) E s) (k : ∀ s', I s' → wpAny M A (execs rest env) Q E s') :
    wpAny M A (exec st env) (fun f s' => match f with | .next => wpAny M A (execs rest env) Q E s' | f => Q f s') E s :=
  wpAny_mono h (fun f s' hj => by obtain ⟨rfl, hi⟩ := hj; exact k s' hi) fun _ _ e => e

end -- WCut
section -- WMain
theorem octL_ok : ∀ (k n : Nat), (octL k n).length ≤ k ∧ ∀ o ∈ octL k n, 0 ≤ o ∧ o < 256
  | 0, n => ⟨Nat.le_refl _, fun _ h => absurd h List.not_mem_nil⟩
  | k + 1, n => by
    rw [octL_succ]
    by_cases h : n = 0
    · rw [if_pos h]; exact ⟨Nat.zero_le _, fun _ h => absurd h List.not_mem_nil⟩
    · rw [if_neg h]
      obtain ⟨a, b⟩ := octL_ok k (n / 320)
      refine ⟨by simp only [List.length_cons]; omega, fun o ho => ?_⟩
      rcases List.mem_cons.mp ho with rfl | ho
      · have hb : ∀ i : Nat, i < 32 → 0 ≤ bordersL.getD i 0 ∧ bordersL.getD i 0 < 256 := by decide
        unfold figL
        have h1 : n % 320 < 320 := Nat.mod_lt _ (by decide)
        split
        · omega
        · exact hb _ (Nat.mod_lt _ (by decide))
      · exact b o ho
theorem wlt_ord : Ord wlt where
  asym a b h := by
    simp only [wlt, decide_eq_true_eq, decide_eq_false_iff_not] at *
    exact List.lt_asymm h
  tr a b c h1 h2 := by
    simp only [wlt, decide_eq_false_iff_not] at *
    exact List.not_lt.mpr (List.le_trans (List.not_lt.mp h2) (List.not_lt.mp h1))
theorem wlt_irr (a : Str × Tok) : wlt a a = false := by
  simp only [wlt, decide_eq_false_iff_not]; exact List.lt_irrefl _
abbrev wds (xs : List (Str × Tok)) : List Str := xs.map (·.1)
abbrev Up (es : List Ent) : Prop := es.Pairwise (fun a b => keyLt b.key a.key = false)
abbrev Good (es : List Ent) : Prop := ∀ e ∈ es, ∃ c, Val e c
def Least (a : Str) (us : List Str) : Prop := ∀ b ∈ us, ¬ b.cps.toList < a.cps.toList
theorem up_least {f : Ent} {r : List Ent} (hg : Good (f :: r)) (hu : Up (f :: r)) : Least f.w ((f :: r).map Ent.w) := by
  intro b hb
  obtain ⟨e, he, rfl⟩ := List.mem_map.1 hb
  rcases List.mem_cons.mp he with rfl | he'
  · exact List.lt_irrefl _
  · obtain ⟨c, vf⟩ := hg f (.head _)
    obtain ⟨d, ve⟩ := hg e he
    rw [ve.lt vf]
    have := List.rel_of_pairwise_cons hu he'
    simp only [keyLt, Ent.key, Bool.or_eq_false_iff] at this
    exact of_decide_eq_false this.1
theorem least_eq {a b : Str} {us vs : List Str} (ha : Least a us) (hb : Least b vs) (p : us.Perm vs) (ma : a ∈ us) (mb : b ∈ vs) : a = b := by
  have h1 := ha b (p.mem_iff.2 mb)
  have h2 := hb a (p.mem_iff.1 ma)
  exact str_ext (List.le_antisymm (List.not_lt.mp h1) (List.not_lt.mp h2))
theorem meet {a : Str} {us : List Str} {f : Ent} {r : List Ent} (hg : Good (f :: r)) (hu : Up (f :: r)) (ha : Least a (a :: us)) (p : (a :: us).Perm ((f :: r).map Ent.w)) : a = f.w ∧ us.Perm (r.map Ent.w) := by
  have e := least_eq ha (up_least hg hu) p (.head _) (List.mem_map_of_mem (.head _))
  subst e
  exact ⟨rfl, List.Perm.cons_inv p⟩
theorem heap_least {y : Str × Tok} {ys : List (Str × Tok)} (H : HeapFrom wlt d0 0 (y :: ys)) : Least y.1 (y.1 :: wds ys) := by
  have h := root_least wlt d0 wlt_ord H wlt_irr
  intro b hb
  have hb' : b ∈ wds (y :: ys) := hb
  obtain ⟨z, hz, rfl⟩ := List.mem_map.1 hb'
  obtain ⟨k, hk, e⟩ := List.getElem_of_mem hz
  have := h k hk
  have e1 : (y :: ys).getD k d0 = z := by rw [List.getD_eq_getElem?_getD, List.getElem?_eq_getElem hk, Option.getD_some, e]
  rw [e1] at this
  simpa [wlt] using this
theorem heap_one {y x : Str × Tok} {ys zs : List (Str × Tok)} (H : HeapFrom wlt d0 0 (y :: ys ++ zs)) : HeapFrom wlt d0 1 (x :: ys) := by
  intro k h1 h2 h3
  have hk : 1 ≤ (k - 1) / 2 := h3
  have := H k h1 (by simp at h2 ⊢; omega) (Nat.zero_le _)
  have e : ∀ j, 1 ≤ j → j < (x :: ys).length → (y :: ys ++ zs).getD j d0 = (x :: ys).getD j d0 := by
    intro j hj hj2
    cases j with
    | zero => omega
    | succ j =>
      simp only [List.length_cons] at hj2
      simp [List.getD_eq_getElem?_getD, List.getElem?_append_left (show j < ys.length by omega)]
  rw [e k h1 h2, e _ hk (by simp at h2 ⊢; omega)] at this
  exact this
theorem up_heap {y x : Str × Tok} {ys zs : List (Str × Tok)} (H : HeapFrom wlt d0 0 (y :: ys ++ zs)) : HeapFrom wlt d0 0 (siftup wlt d0 ((y :: ys).set 0 x) 0) ∧ (wds (siftup wlt d0 ((y :: ys).set 0 x) 0)).Perm (x.1 :: wds ys) := by
  have e : (y :: ys).set 0 x = x :: ys := rfl
  rw [e]
  exact ⟨siftup_ok wlt d0 wlt_ord (by simp) (heap_one H), (siftup_perm (lt := wlt) (d := d0) (by simp)).map _⟩
theorem push_heap {x : Str × Tok} {xs : List (Str × Tok)} (H : HeapFrom wlt d0 0 xs) : HeapFrom wlt d0 0 (siftdown wlt d0 (xs ++ [x]) 0 xs.length) ∧ (wds (siftdown wlt d0 (xs ++ [x]) 0 xs.length)).Perm (x.1 :: wds xs) := by
  refine ⟨push_ok wlt d0 wlt_ord H, ((siftdown_perm (lt := wlt) (d := d0) (by simp)).map _).trans ?_⟩
  rw [List.map_append]
  exact List.perm_append_comm
theorem heapify_heap {xs : List (Str × Tok)} (h : xs.length = 6) : HeapFrom wlt d0 0 (siftup wlt d0 (siftup wlt d0 (siftup wlt d0 xs 2) 1) 0) ∧ (wds (siftup wlt d0 (siftup wlt d0 (siftup wlt d0 xs 2) 1) 0)).Perm (wds xs) := by
  have h2 : HeapFrom wlt d0 3 xs := fun k a b c => by omega
  have l2 := siftup_len6 (lt := wlt) (d := d0) (i := 2) h (by decide)
  have l1 := siftup_len6 (lt := wlt) (d := d0) (i := 1) l2 (by decide)
  have s2 := siftup_ok wlt d0 wlt_ord (by omega : 2 < xs.length) h2
  have s1 := siftup_ok wlt d0 wlt_ord (by omega : 1 < (siftup wlt d0 xs 2).length) s2
  have s0 := siftup_ok wlt d0 wlt_ord (by omega : 0 < (siftup wlt d0 (siftup wlt d0 xs 2) 1).length) s1
  refine ⟨s0, ?_⟩
  have p2 := siftup_perm (lt := wlt) (d := d0) (vs := xs) (p := 2) (by omega)
  have p1 := siftup_perm (lt := wlt) (d := d0) (vs := siftup wlt d0 xs 2) (p := 1) (by omega)
  have p0 := siftup_perm (lt := wlt) (d := d0) (vs := siftup wlt d0 (siftup wlt d0 xs 2) 1) (p := 0) (by omega)
  exact ((p0.trans p1).trans p2).map _
structure Done (deed : Int) (es : List Ent) (e : Ent) (g : Str) (xs' : List (Str × Tok)) : Prop where
  hp : HeapFrom wlt d0 0 xs'
  push : deed < 2 → g = Str.ofString "nothing" ∧ (wds xs').Perm (e.w :: es.map Ent.w)
  none : (deed = 2 ∨ deed = 4) → es = [] → g = Str.ofString "IndexError" ∧ xs' = []
  pop : deed = 2 → ∀ f r, es = f :: r → g = f.w ∧ (wds xs').Perm (r.map Ent.w)
  pp : deed = 3 → ∀ f r, (f :: r).Perm (es ++ [e]) → Up (f :: r) → g = f.w ∧ (wds xs').Perm (r.map Ent.w)
  rep : deed = 4 → ∀ f r, es = f :: r → g = f.w ∧ (wds xs').Perm (e.w :: r.map Ent.w)
theorem heap_nil : HeapFrom wlt d0 0 [] := fun k h1 h2 => absurd h2 (by simp)
section
variable {es : List Ent} {e : Ent} {x y : Str × Tok} {xs ys : List (Str × Tok)} {deed : Int}
theorem done_push (hd : deed < 2) (H : HeapFrom wlt d0 0 xs) (p : (wds xs).Perm (es.map Ent.w)) (hx : x.1 = e.w) : Done deed es e (Str.ofString "nothing") (siftdown wlt d0 (xs ++ [x]) 0 xs.length) := by
  obtain ⟨h1, h2⟩ := push_heap (x := x) H
  refine ⟨h1, fun _ => ⟨rfl, h2.trans ?_⟩, fun h => by omega, fun h => by omega, fun h => by omega, fun h => by omega⟩
  rw [hx]; exact p.cons _
theorem done_pop0 (hd : deed = 2 ∨ deed = 4) (p : (wds []).Perm (es.map Ent.w)) : Done deed es e (Str.ofString "IndexError") [] := by
  have hn : es = [] := by
    have := p.length_eq
    simp only [List.length_map, List.length_nil] at this
    exact List.length_eq_zero_iff.1 this.symm
  subst hn
  exact ⟨heap_nil, fun h => by omega, fun _ _ => ⟨rfl, rfl⟩, (fun _ f r h => by cases h), (fun h => by omega), (fun _ f r h => by cases h)⟩
theorem done_pop1 (hg : Good es) (hu : Up es) (p : (wds [y]).Perm (es.map Ent.w)) : Done 2 es e y.1 [] := by
  refine ⟨heap_nil, fun h => by omega, fun _ h => ?_, fun _ f r h => ?_, fun h => by omega, fun h => by omega⟩
  · subst h; have := p.length_eq; simp at this
  · subst h
    exact meet hg hu (heap_least (ys := []) (fun k h1 h2 => by simp at h2; omega)) p
theorem done_pop (hg : Good es) (hu : Up es) (H : HeapFrom wlt d0 0 (y :: ys ++ [x])) (p : (wds (y :: ys ++ [x])).Perm (es.map Ent.w)) : Done 2 es e y.1 (siftup wlt d0 ((y :: ys).set 0 x) 0) := by
  obtain ⟨h1, h2⟩ := up_heap (x := x) H
  refine ⟨h1, fun h => by omega, fun _ h => ?_, fun _ f r h => ?_, fun h => by omega, fun h => by omega⟩
  · subst h; have := p.length_eq; simp at this
  · subst h
    have q := meet hg hu (heap_least (ys := ys ++ [x]) H) p
    refine ⟨q.1, (h2.trans ?_).trans q.2⟩
    simp only [wds, List.map_append, List.map_cons, List.map_nil]
    exact List.perm_append_comm (l₁ := [x.1])
theorem done_pp0 (hw : x.1 = e.w) (he : ∃ c, Val e c) (p : (wds []).Perm (es.map Ent.w)) : Done 3 es e x.1 [] := by
  have hn : es = [] := by
    have := p.length_eq
    simp only [List.length_map, List.length_nil] at this
    exact List.length_eq_zero_iff.1 this.symm
  subst hn
  refine ⟨heap_nil, fun h => by omega, fun h => by omega, fun h => by omega, fun _ f r hp hu => ?_, fun h => by omega⟩
  have := hp.length_eq
  simp at this
  subst this
  have hp' : [f].Perm [e] := hp
  have := List.singleton_perm_singleton.1 hp'
  subst this
  exact ⟨hw, .refl _⟩
theorem good_perm {es es' : List Ent} (h : Good es) (p : es'.Perm es) : Good es' := fun e he => h e (p.mem_iff.1 he)
theorem good_snoc {es : List Ent} (h : Good es) (he : ∃ c, Val e c) : Good (es ++ [e]) := fun f hf => by
  rcases List.mem_append.mp hf with hf | hf
  · exact h f hf
  · rw [List.mem_singleton.mp hf]; exact he
theorem done_ppN (hg : Good es) (hw : x.1 = e.w) (he : ∃ c, Val e c) (H : HeapFrom wlt d0 0 (y :: ys)) (p : (wds (y :: ys)).Perm (es.map Ent.w)) (hlt : ¬ y.1.cps.toList < x.1.cps.toList) : Done 3 es e x.1 (y :: ys) := by
  refine ⟨H, fun h => by omega, fun h => by omega, fun h => by omega, fun _ f r hp hu => ?_, fun h => by omega⟩
  refine meet (good_perm (good_snoc hg he) hp) hu (us := wds (y :: ys)) ?_ ?_
  · intro b hb
    rcases List.mem_cons.mp hb with rfl | hb
    · exact List.lt_irrefl _
    · exact List.not_lt.mpr (List.le_trans (List.not_lt.mp hlt) (List.not_lt.mp (heap_least H b hb)))
  · refine List.Perm.trans ?_ ((hp.map Ent.w).symm)
    rw [List.map_append, hw]
    exact (p.cons _).trans (List.perm_append_comm (l₁ := [e.w]))
theorem done_ppY (hg : Good es) (hw : x.1 = e.w) (he : ∃ c, Val e c) (H : HeapFrom wlt d0 0 (y :: ys)) (p : (wds (y :: ys)).Perm (es.map Ent.w)) (hlt : y.1.cps.toList < x.1.cps.toList) : Done 3 es e y.1 (siftup wlt d0 ((y :: ys).set 0 x) 0) := by
  obtain ⟨h1, h2⟩ := up_heap (x := x) (zs := []) (by simpa using H)
  refine ⟨h1, fun h => by omega, fun h => by omega, fun h => by omega, fun _ f r hp hu => ?_, fun h => by omega⟩
  have q := meet (good_perm (good_snoc hg he) hp) hu (a := y.1) (us := x.1 :: wds ys) ?_ ?_
  · exact ⟨q.1, h2.trans q.2⟩
  · intro b hb
    rcases List.mem_cons.mp hb with rfl | hb
    · exact List.lt_irrefl _
    rcases List.mem_cons.mp hb with rfl | hb
    · exact List.lt_asymm hlt
    · exact heap_least H b (.tail _ hb)
  · refine List.Perm.trans ?_ ((hp.map Ent.w).symm)
    rw [List.map_append, hw]
    refine (List.Perm.swap ..).trans ((List.Perm.cons _ p).trans (List.perm_append_comm (l₁ := [e.w])))
theorem done_rep (hg : Good es) (hu : Up es) (hw : x.1 = e.w) (H : HeapFrom wlt d0 0 (y :: ys)) (p : (wds (y :: ys)).Perm (es.map Ent.w)) : Done 4 es e y.1 (siftup wlt d0 ((y :: ys).set 0 x) 0) := by
  obtain ⟨h1, h2⟩ := up_heap (x := x) (zs := []) (by simpa using H)
  refine ⟨h1, fun h => by omega, fun _ h => ?_, fun h => by omega, fun h => by omega, fun _ f r h => ?_⟩
  · subst h; have := p.length_eq; simp at this
  · subst h
    have q := meet hg hu (heap_least H) p
    refine ⟨q.1, h2.trans ?_⟩
    rw [hw]; exact q.2.cons _
end
def csL (t : Nat → Tok) : List (Str × Tok) := [(Str.ofString "", t 0), (Str.ofString "", t 1), (Str.ofString "", t 2), (Str.ofString "", t 3), (Str.ofString "a", t 4), (Str.ofString "a-", t 5), (Str.ofString "ab", t 6)]
theorem cs_ok {t : Nat → Tok} {i : Nat} (hi : i < 7) : ((csL t).getD i (Str.empty, 0)).1.length ≤ 20 ∧ 63 ∉ ((csL t).getD i (Str.empty, 0)).1.cps.toList := by
  have : i = 0 ∨ i = 1 ∨ i = 2 ∨ i = 3 ∨ i = 4 ∨ i = 5 ∨ i = 6 := by omega
  rcases this with rfl | rfl | rfl | rfl | rfl | rfl | rfl
  · exact (by decide +kernel : (Str.ofString "").length ≤ 20 ∧ 63 ∉ (Str.ofString "").cps.toList)
  · exact (by decide +kernel : (Str.ofString "").length ≤ 20 ∧ 63 ∉ (Str.ofString "").cps.toList)
  · exact (by decide +kernel : (Str.ofString "").length ≤ 20 ∧ 63 ∉ (Str.ofString "").cps.toList)
  · exact (by decide +kernel : (Str.ofString "").length ≤ 20 ∧ 63 ∉ (Str.ofString "").cps.toList)
  · exact (by decide +kernel : (Str.ofString "a").length ≤ 20 ∧ 63 ∉ (Str.ofString "a").cps.toList)
  · exact (by decide +kernel : (Str.ofString "a-").length ≤ 20 ∧ 63 ∉ (Str.ofString "a-").cps.toList)
  · exact (by decide +kernel : (Str.ofString "ab").length ≤ 20 ∧ 63 ∉ (Str.ofString "ab").cps.toList)
theorem word_not_ie (ns : List Int) (c : Str) : wordS ns c ≠ Str.ofString "IndexError" := by
  intro h
  have h1 := congrArg (fun s => s.cps.toList) h
  have e : (Str.ofString "IndexError").cps.toList = [73, 110, 100, 101, 120, 69, 114, 114, 111, 114] := by decide +kernel
  by_cases h0 : ns = []
  · subst h0; simp only [word_nil, e] at h1; cases h1
  · simp only [word_cps h0, e] at h1
    injection h1 with h2 _
    omega

end -- WMain
section -- WLoop
structure J1 (hp CS SL : Addr) (so : Obj) (D0 : Addr) (xs : List (Str × Tok)) (es : List Ent) (RB : Addr) (rn : Nat) (ah : Oct) (led : List (Addr × Obj)) (m : Str → Option Value) : Prop where
  m1 : m (Str.ofString "heap") = some (.ref hp)
  m2 : m (Str.ofString "row") = some (.ref RB)
  m3 : m (Str.ofString "charsets") = some (.ref CS)
  m4 : m (Str.ofString "ahead") = some (.ref ah.D)
  cs : ∃ t, (CS, csObj t) ∈ led
  sl : (SL, so) ∈ led
  rb : (RB, listOf (refs es).toArray rn) ∈ led
  ah : OctIn led ah
  off : ∀ q ∈ led, q.1 ≠ hp
  rows : Rows led es
  up : Up es
  hq : HeapFrom wlt d0 0 xs
  pm : (wds xs).Perm (es.map Ent.w)
def J1at (hp CS SL : Addr) (so : Obj) (D0 : Addr) (r : List Value) (m : Str → Option Value) (nw : List (Addr × Obj)) : Prop :=
  ∃ (ks : List Int) (xs : List (Str × Tok)) (hn : Nat) (es : List Ent) (RB : Addr) (rn : Nat) (ah : Oct) (led : List (Addr × Obj)), nw = (hp, slist xs hn) :: led ∧ IntsAre r ks ∧ es.length + ks.length ≤ 26 ∧ J1 hp CS SL so D0 xs es RB rn ah led m
theorem Rows.good {nw : List (Addr × Obj)} {es : List Ent} (h : Rows nw es) : Good es := fun e he => (h e he).2
section
variable {prog : Program} {w : World} {A : Around} {E : Value → Shared → Prop} {s : Shared} {h₀ : Heap} {L : Addr} {m : Str → Option Value} {news : List (Addr × Obj)}
theorem slice_any {value slice : PySem.Expr} {l : Addr} {items : Array Value} {vl vu : Value} {lo hi : Option Int} {Q : Value → Shared → Prop}
    (F : Fr h₀ L s.heap m) (N : News h₀ L s.heap news) (hl : s.heap.IsList l items) (pl : IsPart vl lo) (pu : IsPart vu hi)
    (h : ∀ D h', Fr h₀ L h' m → News h₀ L h' ((D, listOf (slicePick items lo hi none) 0) :: news) → (∀ p ∈ news, p.1 < D) → Q (.ref D) { s with heap := h' })
    (hs : subscripted slice false (.ref l) (.ref s.heap.objs.size) = operate [.ref s.heap.objs.size, .ref l] (getItem (.ref l) (.ref s.heap.objs.size)))
    (hsz : items.size ≤ 1000000) :
    wpAny (model prog w) A (subscriptTail value slice (.ref l) (.ref s.heap.objs.size)) Q E { s with heap := s.heap.push { cls := .type "slice", data := .fields #[vl, vu, .none] } } := by
  refine tail_any (Heap.IsList.typeIs (s := { s with heap := s.heap.push { cls := .type "slice", data := .fields #[vl, vu, .none] } }) (hl.push _)) list_getitem_lookup
    (wpAny_getItem_list_slice (hl.push _) (Heap.IsSliceOf.new ..) pl pu .none (by simp) ?_ (by simp only [sizeLine]; omega)) hs
  have N1 := News.push (F.push { cls := .type "slice", data := .fields #[vl, vu, .none] }) (N.grown fun _ _ e => Heap.get?_push_of_some _ e) { cls := .type "list", data := .seq (slicePick items lo hi none) }
  exact h _ _ ((F.push _).push _) N1 fun p hp => by
    rw [Heap.size_push]
    exact Nat.lt_succ_of_lt (Heap.lt_size (N p hp).1)
theorem ne_nil {a b : Addr} {vs : List Value} {n n' : Nat} {Q : Value → Shared → Prop} (N : News h₀ L s.heap news) (hm : (a, listOf vs.toArray n) ∈ news) (hb : (b, listOf #[] n') ∈ news) (hu : A.units + 64 < cLine)
    (h : Q (.bool (!decide (vs = []))) s) : wpAny (model prog w) A (compareOp .NotEq (.ref a) (.ref b)) Q E s := by
  cases vs with
  | nil => exact ke_ne_ints (ns := []) (ms := []) (xs := []) (ys := []) (it_isList N hm) (it_isList N hb) .nil .nil hu h
  | cons v vs => exact PySem.SeqAt.RcNeAt.lists_lengths (it_isList N hm) (it_isList N hb) (by simp) (by omega) prog w E Q h
theorem eq_nilS {a b : Addr} {xs : List (Str × Tok)} {n n' : Nat} {Q : Value → Shared → Prop} (N : News h₀ L s.heap news) (hm : (a, slist xs n) ∈ news) (hb : (b, listOf #[] n') ∈ news) (hu : A.units + 64 < cLine) (hx : xs = [])
    (h : Q (.bool true) s) : wpAny (model prog w) A (compareOp .Eq (.ref a) (.ref b)) Q E s := by
  subst hx
  exact ke_eq_ints (ns := []) (ms := []) (xs := []) (ys := []) (it_isList N hm) (it_isList N hb) .nil .nil hu h
theorem addV {a b : Addr} {vs us : List Value} {n n' : Nat} {Q : Value → Shared → Prop} (F : Fr h₀ L s.heap m) (N : News h₀ L s.heap news) (hm : (a, listOf vs.toArray n) ∈ news) (hb : (b, listOf us.toArray n') ∈ news) (hz : vs.length + us.length < 1000000)
    (h : ∀ D h', Fr h₀ L h' m → News h₀ L h' ((D, listOf (vs ++ us).toArray 0) :: news) → (∀ p ∈ news, p.1 < D) → Q (.ref D) { s with heap := h' }) :
    wpAny (model prog w) A (binaryOp .Add (.ref a) (.ref b)) Q E s :=
  kmk_add_lit F N (it_isList N hm) (it_isList N hb) rfl h (by simp [sizeLine]; omega)
end
theorem num_ok (k : Int) : ((if k < 0 then -k else k).fdiv 5).fmod 10485760000 = ((((if k < 0 then -k else k).fdiv 5).fmod 10485760000).toNat : Int) ∧ (((if k < 0 then -k else k).fdiv 5).fmod 10485760000).toNat < 320 ^ 4 := by
  rw [Int.fmod_eq_emod_of_nonneg _ (by decide)]
  have h1 := Int.emod_nonneg ((if k < 0 then -k else k).fdiv 5) (by decide : (10485760000 : Int) ≠ 0)
  have h2 := Int.emod_lt_of_pos ((if k < 0 then -k else k).fdiv 5) (by decide : (0 : Int) < 10485760000)
  have e : (320 : Nat) ^ 4 = 10485760000 := by decide
  rw [e]
  omega
theorem drop1 (vs : List Value) : slicePick vs.toArray (some 1) none none = (vs.drop 1).toArray := by
  rw [kms_pick_eq]
  simp only [kms_pick, kms_lo, kms_hi]
  cases vs with
  | nil => rfl
  | cons a l => simp
theorem mod5 (k : Int) : k.fmod 5 = 0 ∨ k.fmod 5 = 1 ∨ k.fmod 5 = 2 ∨ k.fmod 5 = 3 ∨ k.fmod 5 = 4 := by
  rw [Int.fmod_eq_emod_of_nonneg _ (by decide)]; omega
theorem mod7 (k : Int) : k.fmod 7 = ((k.fmod 7).toNat : Int) ∧ (k.fmod 7).toNat < 7 := by
  rw [Int.fmod_eq_emod_of_nonneg _ (by decide)]; omega
structure Mid1 (h₀ : Heap) (L hp I : Addr) (it : Obj) (xs : List (Str × Tok)) (hn : Nat) (led : List (Addr × Obj)) (RB CS : Addr) (k : Int) (t : Tok) (o : Oct) (led' : List (Addr × Obj)) (m : Str → Option Value) (h : Heap) : Prop where
  F : Fr h₀ L h m
  N : News h₀ L h ((I, it) :: (hp, slist xs hn) :: led')
  oc : OctIn led' o
  sub : ∀ p ∈ led, p ∈ led'
  off : ∀ q ∈ led', q.1 ≠ hp ∧ q.1 ≠ I
  m1 : m (Str.ofString "heap") = some (.ref hp)
  m2 : m (Str.ofString "row") = some (.ref RB)
  m3 : m (Str.ofString "charsets") = some (.ref CS)
  m4 : m (Str.ofString "x") = some (.int k t)
  m5 : m (Str.ofString "octets") = some (.ref o.D)
structure Mid2 (h₀ : Heap) (L hp I : Addr) (it : Obj) (xs : List (Str × Tok)) (hn : Nat) (RB CS : Addr) (k : Int) (t : Tok) (o : Oct) (led' : List (Addr × Obj)) (c : Str) (tc tw : Tok) (m : Str → Option Value) (h : Heap) : Prop where
  F : Fr h₀ L h m
  N : News h₀ L h ((I, it) :: (hp, slist xs hn) :: led')
  m1 : m (Str.ofString "heap") = some (.ref hp)
  m2 : m (Str.ofString "row") = some (.ref RB)
  m3 : m (Str.ofString "charsets") = some (.ref CS)
  m4 : m (Str.ofString "x") = some (.int k t)
  m5 : m (Str.ofString "octets") = some (.ref o.D)
  m6 : m (Str.ofString "ahead") = some (.ref o.D)
  m7 : m (Str.ofString "charset") = some (.str c tc)
  m8 : m (Str.ofString "word") = some (.str (wordS o.ns c) tw)
  c20 : c.length ≤ 20
  c63 : 63 ∉ c.cps.toList
structure Mid3 (h₀ : Heap) (L hp I : Addr) (it : Obj) (xs : List (Str × Tok)) (hn : Nat) (RB CS T : Addr) (d : Int) (td : Tok) (o : Oct) (led' : List (Addr × Obj)) (g : Str) (tg : Tok) (m : Str → Option Value) (h : Heap) : Prop where
  F : Fr h₀ L h m
  N : News h₀ L h ((I, it) :: (hp, slist xs hn) :: led')
  m1 : m (Str.ofString "heap") = some (.ref hp)
  m2 : m (Str.ofString "row") = some (.ref RB)
  m3 : m (Str.ofString "charsets") = some (.ref CS)
  m6 : m (Str.ofString "ahead") = some (.ref o.D)
  m7 : m (Str.ofString "entry") = some (.ref T)
  m8 : m (Str.ofString "deed") = some (.int d td)
  m9 : m (Str.ofString "got") = some (.str g tg)
theorem news_in {h₀ h : Heap} {L : Addr} {a b c : Addr × Obj} {l : List (Addr × Obj)} (N : News h₀ L h (a :: b :: c :: l)) : News h₀ L h (b :: c :: a :: l) := news_of_sub N (by
  intro q hq
  simp only [List.mem_cons] at hq ⊢
  rcases hq with h | h | h | h <;> simp [h])
theorem news_in2 {h₀ h : Heap} {L : Addr} {a a' b c : Addr × Obj} {l : List (Addr × Obj)} (N : News h₀ L h (a :: a' :: b :: c :: l)) : News h₀ L h (b :: c :: a :: a' :: l) := news_of_sub N (by
  intro q hq
  simp only [List.mem_cons] at hq ⊢
  rcases hq with h | h | h | h | h <;> simp [h])
theorem news_in3 {h₀ h : Heap} {L : Addr} {a a' a'' b c : Addr × Obj} {l : List (Addr × Obj)} (N : News h₀ L h (a :: a' :: a'' :: b :: c :: l)) : News h₀ L h (b :: c :: a :: a' :: a'' :: l) := news_of_sub N (by
  intro q hq
  simp only [List.mem_cons] at hq ⊢
  rcases hq with h | h | h | h | h | h <;> simp [h])
theorem off_cons {D hp I : Addr} {o : Obj} {led : List (Addr × Obj)} (h1 : D ≠ hp) (h2 : D ≠ I) (h : ∀ q ∈ led, q.1 ≠ hp ∧ q.1 ≠ I) : ∀ q ∈ (D, o) :: led, q.1 ≠ hp ∧ q.1 ≠ I := fun q hq => by
  rcases List.mem_cons.mp hq with rfl | hq
  · exact ⟨h1, h2⟩
  · exact h q hq
theorem lt_ne {D : Addr} {news : List (Addr × Obj)} {p : Addr × Obj} (l : ∀ q ∈ news, q.1 < D) (h : p ∈ news) : D ≠ p.1 := Nat.ne_of_gt (l p h)
theorem take6 {a b : List Int} (ha : ∀ x ∈ a, 0 ≤ x ∧ x < 256) (hb : ∀ x ∈ b, 0 ≤ x ∧ x < 256) : (∀ x ∈ (a ++ b).take 6, 0 ≤ x ∧ x < 256) ∧ ((a ++ b).take 6).length ≤ 6 := ⟨fun x hx => by
  rcases List.mem_append.mp (List.mem_of_mem_take hx) with h | h
  · exact ha x h
  · exact hb x h, by rw [List.length_take]; omega⟩
theorem entry_pack {h₀ h : Heap} {L T R hp I : Addr} {it : Obj} {o : Oct} {c : Str} {us : List Value} {un : Nat} {wt st : Tok} {xs : List (Str × Tok)} {hn : Nat} {led' : List (Addr × Obj)}
    (N : News h₀ L h ((T, { cls := .type "tuple", data := .seq #[.ref R, .str (wordS o.ns c) wt, .ref o.D, .int (c.length : Int) st] }) :: (R, listOf us.toArray un) :: (I, it) :: (hp, slist xs hn) :: led'))
    (ho : OctIn led' o) (hus : IntsAre us (ranksL o.ns c)) (hc20 : c.length ≤ 20) (hc63 : 63 ∉ c.cps.toList) (hR : R ≠ hp ∧ R ≠ I) (hT : T ≠ hp ∧ T ≠ I) (hoff : ∀ q ∈ led', q.1 ≠ hp ∧ q.1 ≠ I) :
    ∃ (e : Ent) (led2 : List (Addr × Obj)), e.T = T ∧ e.w = wordS o.ns c ∧ News h₀ L h ((hp, slist xs hn) :: (I, it) :: led2) ∧ EntIn led2 e ∧ (∃ c, Val e c) ∧ (∀ p ∈ led', p ∈ led2) ∧ (∀ q ∈ led2, q.1 ≠ hp ∧ q.1 ≠ I) :=
  ⟨⟨T, R, o.D, us, o.vs, un, o.n, wordS o.ns c, wt, c.length, st, ranksL o.ns c, o.ns⟩, _, rfl, rfl, news_swap (news_in2 N), ⟨.head _, .tail _ (.head _), .tail _ (.tail _ ho.m), hus, ho.i⟩,
    ⟨c, hc63, rfl, hc20, rfl, rfl, ho.b, ho.six⟩, fun p hp => .tail _ (.tail _ hp), off_cons hT.1 hT.2 (off_cons hR.1 hR.2 hoff)⟩
theorem snoc_cases {α : Type} (l : List α) : l = [] ∨ ∃ a x, l = a ++ [x] := by
  rcases List.eq_nil_or_concat l with h | ⟨a, x, h⟩
  · exact .inl h
  · exact .inr ⟨a, x, by rw [h]; simp⟩
theorem news_in5 {h₀ h : Heap} {L : Addr} {a1 a2 a3 a4 a5 b c : Addr × Obj} {l : List (Addr × Obj)} (N : News h₀ L h (a1 :: a2 :: a3 :: a4 :: a5 :: b :: c :: l)) : News h₀ L h (b :: c :: a1 :: a2 :: a3 :: a4 :: a5 :: l) := news_of_sub N (by
  intro q hq
  simp only [List.mem_cons] at hq ⊢
  rcases hq with h | h | h | h | h | h | h | h <;> simp [h])
theorem turn_end {h₀ h' : Heap} {L hp CS SL I D0 RC : Addr} {it so : Obj} {s₁ : Shared} {tk rcn hn' : Nat} {xs' : List (Str × Tok)} {es' : List Ent} {o : Oct} {led2 led3 : List (Addr × Obj)} {m' : Str → Option Value} {r : List Value} {ks : List Int} {Q : Flow → Shared → Prop}
    (F : Fr h₀ L h' m') (N : News h₀ L h' ((I, it) :: (hp, slist xs' hn') :: led3)) (sub : ∀ p ∈ led2, p ∈ led3) (off3 : ∀ q ∈ led3, q.1 ≠ hp ∧ q.1 ≠ I) (hne : hp ≠ I)
    (m1 : m' (Str.ofString "heap") = some (.ref hp)) (m2 : m' (Str.ofString "row") = some (.ref RC)) (m3 : m' (Str.ofString "charsets") = some (.ref CS)) (m4 : m' (Str.ofString "ahead") = some (.ref o.D))
    (hcs : ∃ t, (CS, csObj t) ∈ led2) (hsl : (SL, so) ∈ led2) (hrb : (RC, listOf (refs es').toArray rcn) ∈ led3) (ho : OctIn led2 o) (rows : Rows led2 es') (up : Up es') (hq : HeapFrom wlt d0 0 xs') (pm : (wds xs').Perm (es'.map Ent.w)) (hks : IntsAre r ks) (hl : es'.length + ks.length ≤ 26) :
    UnrPost h₀ L s₁ I it (fun m' n' => (SL, so) ∈ n' ∧ J1at hp CS SL so D0 r m' n') Q .next { s₁ with heap := h', toks := tk } := by
  refine unr_next _ F N ?_ ⟨.tail _ (sub _ hsl), ks, xs', hn', es', RC, rcn, o, led3, rfl, hks, hl, m1, m2, m3, m4, ?_, sub _ hsl, hrb, ho.mono sub, fun q hq => (off3 q hq).1, rows.mono sub, up, hq, pm⟩
  · intro p hp
    rcases List.mem_cons.mp hp with rfl | hp
    · exact hne
    · exact (off3 p hp).2
  · obtain ⟨t, h⟩ := hcs
    exact ⟨t, sub _ h⟩
theorem ent_tup {h₀ h : Heap} {L : Addr} {news : List (Addr × Obj)} {f : Ent} (N : News h₀ L h news) (hm : (f.T, f.tup) ∈ news) : IsTup h f.T [Value.ref f.R, .str f.w f.wt, .ref f.O, .int f.sz f.st].toArray := ⟨_, (N _ hm).1, rfl, 0, rfl⟩
theorem pm_snoc {ws : List Str} {es es2 : List Ent} {e : Ent} (h : ws.Perm (e.w :: es.map Ent.w)) (p : es2.Perm (es ++ [e])) : ws.Perm (es2.map Ent.w) := by
  refine h.trans (List.Perm.trans ?_ (p.map Ent.w).symm)
  rw [List.map_append]
  exact List.perm_append_comm (l₁ := [e.w])

end -- WLoop
section -- WEnd
theorem unrW_mono {h₀ : Heap} {L : Addr} {s₁ : Shared} {its : List (Addr × Obj)} {r r' : (Str → Option Value) → List (Addr × Obj) → Prop} {Q : Flow → Shared → Prop} {f : Flow} {s₂ : Shared} (h : UnrPostW h₀ L s₁ its r Q f s₂) (hr : ∀ m n, (∀ p ∈ n, ∀ q ∈ its, p.1 ≠ q.1) → r m n → r' m n) : UnrPostW h₀ L s₁ its r' Q f s₂ := by
  cases f with
  | ret v => exact h
  | brk => exact h
  | next => obtain ⟨h', tk, m', n', e, F, N, o, x⟩ := h; exact ⟨h', tk, m', n', e, F, N, o, hr _ _ o x⟩
  | cont => obtain ⟨h', tk, m', n', e, F, N, o, x⟩ := h; exact ⟨h', tk, m', n', e, F, N, o, hr _ _ o x⟩
section
variable {prog : Program} {w : World} {A : Around} {E : Value → Shared → Prop} {s : Shared} {env : Env} {h₀ : Heap} {x : Str} {target : Expr} {body : List Stmt} {Q : Flow → Shared → Prop}
theorem for_tup {ax : Addr} {vs : List Value} {n : Nat} {m₀ : Str → Option Value} {news : List (Addr × Obj)} (J : List Value → (Str → Option Value) → List (Addr × Obj) → Prop)
    (hh : A.handled = none) (F : Fr h₀ env.locals s.heap m₀) (N : News h₀ env.locals s.heap news) (hm : (ax, listOf vs.toArray n) ∈ news) (start : J vs m₀ news)
    (turn : ∀ v r m nw I it h tk, J (v :: r) m nw → (∀ p ∈ nw, p.1 ≠ I) → Fr h₀ env.locals h m → News h₀ env.locals h ((I, it) :: nw) →
      wpAny (model prog w) A (assign target env v) (fun _ s₂ => wpAny (model prog w) A (execs body env) (UnrPostW h₀ env.locals { s with heap := h, toks := tk } [(I, it)] (fun m' n' => (ax, listOf vs.toArray n) ∈ n' ∧ J r m' n') Q) E s₂) E { s with heap := h, toks := tk })
    (fin : ∀ m nw h tk, J [] m nw → Fr h₀ env.locals h m → News h₀ env.locals h nw → Q .next { s with heap := h, toks := tk }) :
    wpAny (model prog w) A (pyIter (.ref ax)) (fun it s₂ => TurnsAt prog w A h₀ env target body Q E it s₂) E s := by
  refine iter_listTurns hh F N hm rfl rfl fun I hI => ?_
  have key : ∀ r m nw, J r m nw → (∀ p ∈ nw, p.1 ≠ I) → ItemsRest prog w A E h₀ env target body Q s [(I, "list_iterator")] [(ax, listOf vs.toArray n)] (r.map .val) m nw := by
    intro r
    induction r with
    | nil => intro m nw hJ _; exact ItemsRest.zero fun h tk F' N' => fin m nw h tk hJ F' N'
    | cons v r ih =>
      intro m nw hJ off
      refine ItemsRest.val fun h tk F' => ?_
      intro it hc
      show News h₀ env.locals h ([(I, it)] ++ nw) → _
      intro N'
      refine wpAny_mono (turn v r m nw I it h tk hJ off F' N') (fun _ s₂ h2 => wpAny_mono h2 (fun f s₃ hp => unrW_mono hp fun m' n' o hx => ⟨⟨hx.1, trivial⟩, ih m' n' hx.2 fun p hp => o p hp _ (.head _)⟩) fun _ _ e => e) fun _ _ e => e
  exact key vs m₀ news start fun p hp => Nat.ne_of_lt (hI p hp)
theorem unrW_next {L : Addr} {s₁ : Shared} {I : Addr} {it : Obj} {rest : (Str → Option Value) → List (Addr × Obj) → Prop} {h' : Heap} {tk : Nat} {m' : Str → Option Value} (nw : List (Addr × Obj)) (F : Fr h₀ L h' m') (N : News h₀ L h' ((I, it) :: nw)) (off : ∀ p ∈ nw, p.1 ≠ I) (r : rest m' nw) :
    UnrPostW h₀ L s₁ [(I, it)] rest Q .next { s₁ with heap := h', toks := tk } := ⟨h', tk, m', nw, rfl, F, N, fun p hp q hq => by rw [List.mem_singleton.mp hq]; exact off p hp, r⟩
theorem for_goT {m : Str → Option Value} {pos : Pos} {iter : Expr} (F : Fr h₀ env.locals s.heap m)
    (hs : ∀ x, foldedSetIterable iter env x = pure x) (hE : PassesOwn (model prog w) A env E)
    (h : wpAny (model prog w) A (eval iter env) (fun xv s₁ => wpAny (model prog w) A (pyIter xv) (fun it s₂ => TurnsAt prog w A h₀ env target body Q E it s₂) E s₁) E s) :
    wpAny (model prog w) A (exec (.For target iter body [] pos) env) Q E s := For_turns F h hs hE
theorem for_rng {r : Addr} {a₀ b₀ : Int} {t₀ u₀ v₀ : Tok} {n : Nat} {m₀ : Str → Option Value} {news : List (Addr × Obj)} (J : (Str → Option Value) → Prop)
    (hh : A.handled = none) (hr : IsRange s.heap r a₀ b₀ 1 t₀ u₀ v₀) (hsmall : Builtin.Range.small a₀ b₀ 1 = true) (hn : Builtin.Range.rangeSize a₀ b₀ 1 = (n : Int)) (F : Fr h₀ env.locals s.heap m₀) (N : News h₀ env.locals s.heap news) (start : J m₀)
    (turn : ∀ (i : Nat) t m I it h tk, i < n → J m → (∀ p ∈ news, p.1 ≠ I) → Fr h₀ env.locals h (fun y => if y = x then some (.int (a₀ + (i : Int)) t) else m y) → News h₀ env.locals h ((I, it) :: news) →
      wpAny (model prog w) A (execs body env) (UnrPost h₀ env.locals { s with heap := h, toks := tk } I it (fun m' n' => n' = news ∧ J m') Q) E { s with heap := h, toks := tk })
    (fin : ∀ m h tk, J m → Fr h₀ env.locals h m → News h₀ env.locals h news → Q .next { s with heap := h, toks := tk }) :
    wpAny (model prog w) A (pyIter (.ref r)) (fun it s₂ => LoopAtV prog w A h₀ env x body Q E it s₂) E s := by
  refine iter_rangeUnr hh hr hsmall hn F N fun I hI => ?_
  have hI' : ∀ p ∈ news, p.1 ≠ I := fun p hp => Nat.ne_of_lt (hI p hp)
  have key : ∀ (k i : Nat) m, i + k = n → J m → RangeRest prog w A E h₀ env x body Q s I a₀ n k i m news := by
    intro k
    induction k with
    | zero => intro i m _ hJ; exact RangeRest.zero fun h tk F' N' => fin m h tk hJ F' N'
    | succ k ih =>
      intro i m hi hJ
      refine RangeRest.succ fun t h tk F' N' => ?_
      exact wpAny_mono (turn i t m I _ h tk (by omega) hJ hI' F' N') (fun f s₂ hp => unr_mono hp fun m' n' o hx => by
        obtain ⟨rfl, hj⟩ := hx
        exact ih (i + 1) m' (by omega) hj) fun _ _ e => e
  exact key n 0 m₀ (by omega) start
end
theorem rng_size {L : Nat} : Builtin.Range.rangeSize 1 (L : Int) 1 = ((L - 1 : Nat) : Int) := by
  unfold Builtin.Range.rangeSize
  simp only [show (1 : Int) > 0 by decide, if_true, Int.ediv_one]
  split <;> omega
theorem strs_of {ns : List Int} (g : Int → Str) {vs : List Value} {ms : List Int} (hI : IntsAre vs ms) : ∀ {ys : List Value}, (∀ k ∈ ms, k ∈ ns) → Paired (fun v r => ∀ k u, v = .int k u → k ∈ ns → ∃ t, r = .str (g k) t) vs ys → StrsAre ys (ms.map g) := by
  induction hI with
  | nil => intro ys _ hP; cases hP; exact .nil
  | cons k u h ih =>
    intro ys hm hP
    cases hP with
    | cons hF hR =>
      obtain ⟨t, rfl⟩ := hF k u rfl (hm k (.head _))
      exact .cons _ _ (ih (fun k hk => hm k (.tail _ hk)) hR)
section
variable {prog : Program} {w : World} {A : Around} {E : Value → Shared → Prop} {s : Shared} {env : Env} {h₀ : Heap} {L : Addr} {m : Str → Option Value} {news : List (Addr × Obj)}
theorem comp_ints {elt iter : Expr} {x : Str} {px : Pos} {scope : Scope} {pos : Pos} {Q : Value → Shared → Prop} {ax : Addr} {vs : List Value} {n : Nat} {ns : List Int} (g : Int → Str) (F : Fr h₀ L s.heap m) (N : News h₀ L s.heap news) (hm : (ax, listOf vs.toArray n) ∈ news) (hI : IntsAre vs ns)
    (hiter : ∀ Q' : Value → Shared → Prop, Q' (.ref ax) s → wpAny (model prog w) A (eval iter env) Q' E s)
    (hh : A.handled = none) (hfree : ∀ y ∈ scope.names, y.2 ≠ .free) (hcell : ∀ y ∈ scope.names, y.2 ≠ .cell) (hkind : scope.kind = .function)
    (hnames : ∀ y ∈ scope.names, y.2 = .local → scope.names.lookup y.1 = some .local) (hx : scope.names.lookup x = some .local) (hsz : ns.length ≤ 1000000)
    (helt : ∀ C k u s₃ m₃ E', k ∈ ns → s₃.heap.Ns C m₃ → m₃ x = some (.int k u) → (∀ b o, s.heap.get? b = some o → s₃.heap.get? b = some o) →
        wpAny (model prog w) A (eval elt (compEnv scope C env)) (fun r s₄ => (∃ t, r = .str (g k) t) ∧ Keeps s₃ s₄) E' s₃)
    (hQ : ∀ D us n h' tk, Fr h₀ L h' m → News h₀ L h' ((D, listOf us.toArray n) :: news) → StrsAre us (ns.map g) → (∀ q ∈ news, q.1 ≠ D) → Q (.ref D) { s with heap := h', toks := tk })
    (hs : ∀ x, foldedSetIterable iter env x = pure x) :
    wpAny (model prog w) A (eval (.ListComp elt [⟨.Name x px, iter, [], 0⟩] scope pos) env) Q E s := by
  have hl : s.heap.IsList ax vs.toArray := it_isList N hm
  have hax : ax < s.heap.objs.size := Heap.lt_size (N _ hm).1
  refine wpAny_ListComp_walk (fun _ => true) (fun v r => ∀ k u, v = .int k u → k ∈ ns → ∃ t, r = .str (g k) t) hfree hcell hkind hnames hx (hiter _ ?_) hs
  refine wpAny_pyIter_list hl ?_
  generalize ho : ({ cls := .type "list_iterator", data := .fields #[.ref ax, .int 0 0] } : Obj) = o
  have up : ∀ (h' : Heap), (∀ b o', b ∉ [s.heap.objs.size] → (s.heap.push o).get? b = some o' → h'.get? b = some o') → ∀ b o', s.heap.get? b = some o' → h'.get? b = some o' :=
    fun h' hk b o' e => hk b o' (old_not_new e) (Heap.get?_push_of_some _ e)
  refine ⟨s.heap.objs.size, [s.heap.objs.size, ax], [s.heap.objs.size], vs.toArray.size, (fun i v => vs.toArray[i]? = some v), _, rfl, Walks.list hh s.heap.objs.size ax (Nat.ne_of_lt hax) vs.toArray, (by rw [List.size_toArray, hI.length]; simp only [sizeLine]; omega), ?_, ?_, ⟨?_, ?_⟩, ?_⟩
  · subst ho
    exact ⟨⟨_, Heap.get?_push_size _ rfl, rfl, rfl⟩, hl.at fun o e => Heap.get?_push_of_some _ e⟩
  · intro b hb
    show b < (s.heap.push o).objs.size
    rw [Heap.size_push]
    rcases List.mem_cons.mp hb with rfl | hb
    · exact Nat.lt_succ_self _
    · rw [List.mem_singleton.mp hb]; exact Nat.lt_succ_of_lt hax
  · intro C i v s₃ m₃ E' hP hn hm hk _
    exact wpAny_pure ⟨rfl, s₃.heap, s₃.toks, rfl, fun _ _ e => e⟩
  · intro C i v s₃ m₃ E' hP hp hn hm hk _
    have hP' : vs[i]? = some v := by simpa using hP
    rcases intsAre_at i hI with ⟨h1, _⟩ | ⟨k, u, h1, h2⟩
    · rw [h1] at hP'; cases hP'
    · rw [h1] at hP'
      obtain rfl := Option.some.inj hP'
      refine wpAny_mono (helt C k u s₃ m₃ E' (List.mem_of_getElem? h2) hn hm (up _ hk)) (fun r s₄ h₄ => ⟨fun k' u' e _ => ?_, h₄.2⟩) fun _ _ e => e
      cases e
      exact h₄.1
  · intro D h' tk ys vs' hnew hlD hplD hlen hP hF hk
    obtain ⟨n, hD⟩ := hplD
    rw [List.filter_eq_self.mpr (fun _ _ => rfl)] at hF
    have hvs : vs' = vs := by
      apply List.ext_getElem?
      intro j
      by_cases hj : j < vs'.length
      · have := hP j _ (List.getElem?_eq_getElem hj)
        rw [List.getElem?_eq_getElem hj]
        simpa using this.symm
      · have hj2 : vs.length ≤ j := by rw [List.size_toArray] at hlen; omega
        rw [List.getElem?_eq_none (by omega), List.getElem?_eq_none hj2]
    subst hvs
    have hne : ∀ q ∈ news, q.1 ≠ D := fun p hp e => by rw [← e, Heap.get?_push_of_some _ (N p hp).1] at hnew; cases hnew
    have h0 : h₀.get? D = none := by
      cases e : h₀.get? D with
      | none => rfl
      | some o' => rw [Heap.get?_push_of_some _ (F.keep _ _ e)] at hnew; cases hnew
    have hDL : D ≠ L := by
      rintro rfl
      rw [Heap.get?_push_of_some _ (show s.heap.get? D = some _ from F.ns.choose_spec.choose_spec.choose_spec.1)] at hnew
      cases hnew
    refine hQ D ys.toList n h' tk (F.keeps (up h' hk)) (fun q hq => ?_) (strs_of g hI (fun _ h => h) hF) hne
    rcases List.mem_cons.mp hq with rfl | hq
    · exact ⟨by rw [Array.toArray_toList]; exact hD, hDL, h0⟩
    · exact (N.grown (up h' hk)) q hq
end
theorem join_chars (ns : List Int) : (Txt.join (Str.ofString "") (ns.map fun k => (⟨#[k.toNat]⟩ : Str))).cps.toList = ns.map Int.toNat := by
  have e0 : Str.ofString "" = (⟨#[]⟩ : Str) := by decide +kernel
  rw [eq_of_beq (join_plain_closes _ _), e0, ← fold_cat_join_nil]
  have : ∀ (l : List Int) (a : Str), ((l.map fun k => (⟨#[k.toNat]⟩ : Str)).foldl HAppend.hAppend a).cps.toList = a.cps.toList ++ l.map Int.toNat := by
    intro l
    induction l with
    | nil => intro a; simp
    | cons k l ih =>
      intro a
      rw [List.map_cons, List.foldl_cons, ih]
      have : (a ++ (⟨#[k.toNat]⟩ : Str)).cps.toList = a.cps.toList ++ [k.toNat] := str_app a ⟨#[k.toNat]⟩
      show (a ++ (⟨#[k.toNat]⟩ : Str)).cps.toList ++ _ = _
      rw [this]
      simp
  exact this ns ⟨#[]⟩
open PySem.Builtin.Str in
theorem word_mid {ns : List Int} {c : Str} (h0 : ¬ ns = []) : (Txt.slice (wordS ns c) (some ((c.length : Int) + 5)) (some (-2))).cps.toList = ns.flatMap (fun o => (signS o).cps.toList) := by
  have hw := word_cps (c := c) h0
  generalize hB : ns.flatMap (fun o => (signS o).cps.toList) = B at hw ⊢
  have hlen : (wordS ns c).length = c.length + 5 + B.length + 2 := by
    have := congrArg List.length hw
    simp only [List.length_cons, List.length_append, List.length_nil, Array.length_toList] at this
    show (wordS ns c).cps.size = c.cps.size + 5 + B.length + 2
    omega
  have hidx : strSliceIndices (some ((c.length : Int) + 5)) (some (-2)) 1 (wordS ns c).length = (List.range B.length).map ((c.length + 5) + ·) := by
    rw [hlen]
    have e : strSliceIndices (some ((c.length : Int) + 5)) (some (-2)) 1 (c.length + 5 + B.length + 2) = sliceRange ((c.length + 5 : Nat) : Int) ((c.length + 5 + B.length : Nat) : Int) 1 := by
      unfold strSliceIndices
      simp only [show (1 : Int) > 0 by decide, if_true]
      congr 1
      · rw [if_neg (by omega)]; omega
      · rw [if_pos (by decide)]; omega
    rw [e, sliceRange_one]
    congr 2
    omega
  unfold Txt.slice
  rw [hidx, if_neg (by simp [hlen]; omega)]
  show ((List.range B.length).map ((c.length + 5) + ·)).filterMap ((wordS ns c).cps[·]?) = B
  rw [pick_run, hw]
  have e1 : (61 :: 63 :: (c.cps.toList ++ 63 :: 113 :: 63 :: (B ++ [63, 61]))) = (61 :: 63 :: (c.cps.toList ++ [63, 113, 63])) ++ (B ++ [63, 61]) := by simp
  rw [e1, List.drop_left' (by simp [PySem.Str.length]), List.take_left' rfl]
theorem heappop_any {prog : Program} {w : World} {p : Program} {loose : List Str} {mean : ExcName → Option Value} {mg mb : Str → Option Value} {dp un : Nat} {gd : Option (List Code)} {cn : Str} {cs : Scope} {a : Addr} {ccd : Value} {cl : List (Str × Addr)} {outer : List Env} {A₀ : Around} {base h₀ : Heap} {L : Addr} {m : Str → Option Value}
    {news : List (Addr × Obj)} {s : Shared} {Q E : Value → Shared → Prop} {hp : Addr} {n : Nat} {y : Str × Tok} {t : List (Str × Tok)}
    (B : Below A₀ base outer h₀) (F : Fr h₀ L s.heap m) (X : (Mine.hd.heap_39 w.params).In h₀) (N : News h₀ L s.heap ((hp, slist (y :: t) n) :: news)) (T : Top p loose mean mg mb h₀) (hk : cs.kind = .function)
    (hne : ∀ q ∈ news, q.1 ≠ hp) (hlen : t.length < 900) (H : HeapFrom wlt d0 0 (y :: t))
    (hd : dp + 4 < recursionLimit) (hu : un + 700 < cLine)
    (ret : ∀ h' tk' xs' n', HeapFrom wlt d0 0 xs' → (wds xs').Perm (wds t) → Fr h₀ L h' m → News h₀ L h' ((hp, slist xs' n') :: news) → Q (sv y) { s with heap := h', toks := tk' }) :
    wpAny (model prog w) (ktrTop dp un gd cn cs L a ccd cl outer) (call (.ref 45) [.ref hp]) Q E s := by
  rcases snoc_cases t with rfl | ⟨ys, x, rfl⟩
  · exact heappop1_spec (x := y) B F X N T hk hne hd hu fun h' tk' F' N' => ret h' tk' [] _ heap_nil (.refl _) F' N'
  · have hl : ys.length < 900 := by simp at hlen; omega
    refine heappop_spec (y := y) (ys := ys) (x := x) B F X N T hk hne hl hd hu fun h' tk' F' N' => ?_
    obtain ⟨h1, h2⟩ := up_heap (x := x) (zs := [x]) H
    refine ret h' tk' _ _ h1 (h2.trans ?_) F' N'
    simp only [wds, List.map_append, List.map_cons, List.map_nil]
    exact List.perm_append_comm (l₁ := [x.1])
def J2 (hp : Addr) (ro : Addr × Obj) (r : List Value) (m : Str → Option Value) (nw : List (Addr × Obj)) : Prop :=
  ∃ (xs : List (Str × Tok)) (hn : Nat) (es : List Ent) (led : List (Addr × Obj)), nw = (hp, slist xs hn) :: led ∧ ro ∈ led ∧ r = refs es ∧ m (Str.ofString "heap") = some (.ref hp) ∧ (∀ q ∈ led, q.1 ≠ hp) ∧ Rows led es ∧ Up es ∧ HeapFrom wlt d0 0 xs ∧ (wds xs).Perm (es.map Ent.w) ∧ es.length ≤ 26
theorem news_start7 {h₀ h : Heap} {L : Addr} {a b c d : Addr × Obj} {l : List (Addr × Obj)} (N : News h₀ L h (a :: b :: c :: d :: l)) : News h₀ L h (d :: a :: b :: c :: l) := news_of_sub N (by
  intro q hq
  simp only [List.mem_cons] at hq ⊢
  rcases hq with h | h | h | h | h <;> simp [h])
theorem word_len {ns : List Int} {c : Str} (h6 : ns.length ≤ 6) (hc : c.length ≤ 20) : (wordS ns c).length ≤ sizeLine := by
  have hf : ∀ l : List Int, (l.flatMap (fun o => (signS o).cps.toList)).length ≤ 3 * l.length := by
    intro l; induction l with
    | nil => simp
    | cons o l ih =>
      have := sign_len o
      simp only [List.flatMap_cons, List.length_append, List.length_cons, Array.length_toList]
      simp only [PySem.Str.length] at this
      omega
  have h100 : (wordS ns c).length ≤ 100 := by
    by_cases h0 : ns = []
    · subst h0
      have := congrArg List.length (word_nil c)
      simp only [Array.length_toList, List.length_nil] at this
      show (wordS [] c).cps.size ≤ 100
      omega
    · have := congrArg List.length (word_cps (c := c) h0)
      have h3 := hf ns
      simp only [List.length_cons, List.length_append, List.length_nil, Array.length_toList] at this
      show (wordS ns c).cps.size ≤ 100
      have : c.cps.size ≤ 20 := hc
      omega
  exact Nat.le_trans h100 (by unfold sizeLine; decide)
theorem last_end {h₀ h' : Heap} {L hp I : Addr} {it : Obj} {ro : Addr × Obj} {s₁ : Shared} {tk hn' : Nat} {xs' : List (Str × Tok)} {es' : List Ent} {led2 led3 : List (Addr × Obj)} {m' : Str → Option Value} {Q : Flow → Shared → Prop}
    (F : Fr h₀ L h' m') (N : News h₀ L h' ((I, it) :: (hp, slist xs' hn') :: led3)) (sub : ∀ p ∈ led2, p ∈ led3) (off3 : ∀ q ∈ led3, q.1 ≠ hp ∧ q.1 ≠ I) (hne : hp ≠ I)
    (m1 : m' (Str.ofString "heap") = some (.ref hp)) (hrb : ro ∈ led2) (rows : Rows led2 es') (up : Up es') (hq : HeapFrom wlt d0 0 xs') (pm : (wds xs').Perm (es'.map Ent.w)) (hl : es'.length ≤ 26) :
    UnrPostW h₀ L s₁ [(I, it)] (fun m' n' => ro ∈ n' ∧ J2 hp ro (refs es') m' n') Q .next { s₁ with heap := h', toks := tk } := by
  refine unrW_next _ F N ?_ ⟨.tail _ (sub _ hrb), xs', hn', es', led3, rfl, sub _ hrb, rfl, m1, fun q hq => (off3 q hq).1, rows.mono sub, up, hq, pm, hl⟩
  intro p hp
  rcases List.mem_cons.mp hp with rfl | hp
  · exact hne
  · exact (off3 p hp).2
theorem join_room {ns : List Int} (h : ns.length ≤ 6) : ((ns.map fun k => (⟨#[k.toNat]⟩ : Str)).map (·.length)).sum + (ns.map fun k => (⟨#[k.toNat]⟩ : Str)).length * (Str.ofString "").length ≤ 16777216 := by
  have e0 : (Str.ofString "").length = 0 := by decide +kernel
  have e1 : ∀ l : List Int, ((l.map fun k => (⟨#[k.toNat]⟩ : Str)).map (·.length)).sum = l.length := by
    intro l; induction l with
    | nil => rfl
    | cons k l ih =>
      rw [List.map_cons, List.map_cons, List.sum_cons, ih, List.length_cons]
      show 1 + l.length = _
      omega
  rw [e0, e1, Nat.mul_zero]
  omega

end -- WEnd
section -- WLaw
theorem reg12 : True := by
  (k_with "mine call type:bytes" => first | ((k_here; (with_reducible show wpAny _ _ (call (Value.type "bytes") [Value.ref _]) _ _ _); k_dflt (refine' KBa.make_K ?zqk1 ?zqk2 ?zqk3 ?zqk4 ?zqk5 ?zqk6 ?zqk7 ?_; (case zqk1 => k_asm); (case zqk2 => k_asm); (case zqk3 => exact rfl); (case zqk4 => exact it_isList (by k_asm) (by k_extra "mine mem")); (case zqk5 => k_extra "mine ints"); (case zqk6 => assumption); (case zqk7 => k_extra "mine lt"); k_whole); intro _ _ _ _ _ _; (try k_sweep))) | fail "no")
  (k_with "mine call ref" => first | ((k_here; (with_reducible show wpAny _ _ (call (Value.ref 116) [Value.bytes (byteArr _) _]) _ _ _); k_dflt (refine' encode_spec ?zqk1 ?zqk2 ?zqk3 ?zqk4 ?zqk5 ?zqk6 ?zqk7 ?zqk8 ?zqk9 ?zqk10 ?_; (case zqk1 => k_asm); (case zqk2 => k_asm); (case zqk3 => k_asm); (case zqk4 => k_asm); (case zqk5 => k_asm); (case zqk6 => exact rfl); (case zqk7 => assumption); (case zqk8 => k_extra "mine lt"); (case zqk9 => ktr_room); (case zqk10 => ktr_units); k_whole); intro _ _ _ _ _; (try k_sweep))) | fail "no")
  (k_with "mine call ref" => first | ((k_here; (with_reducible show wpAny _ _ (call (Value.ref 116) [Value.bytes (byteArr _) _, Value.str _ _]) _ _ _); k_dflt (refine' encode2_spec ?zqk1 ?zqk2 ?zqk3 ?zqk4 ?zqk5 ?zqk6 ?zqk7 ?zqk8 ?zqk9 ?zqk10 ?zqk11 ?_; (case zqk1 => k_asm); (case zqk2 => k_asm); (case zqk3 => k_asm); (case zqk4 => k_asm); (case zqk5 => k_asm); (case zqk6 => exact rfl); (case zqk7 => assumption); (case zqk8 => k_extra "mine lt"); (case zqk9 => assumption); (case zqk10 => ktr_room); (case zqk11 => ktr_units); k_whole); intro _ _ _ _ _; (try k_sweep))) | fail "no")
  (k_with "mine call ref" => first | ((k_here; (with_reducible show wpAny _ _ (call (Value.ref 161) [Value.ref _, Value.str _ _]) _ _ _); k_dflt (refine' ranks_spec ?zqk1 ?zqk2 ?zqk3 ?zqk4 ?zqk5 ?zqk6 ?zqk7 ?zqk8 ?zqk9 ?zqk10 ?zqk11 ?zqk12 ?zqk13 ?_; (case zqk1 => k_asm); (case zqk2 => k_asm); (case zqk3 => k_asm); (case zqk4 => k_asm); (case zqk5 => k_asm); (case zqk6 => exact rfl); (case zqk7 => k_extra "mine mem"); (case zqk8 => k_extra "mine ints"); (case zqk9 => assumption); (case zqk10 => k_extra "mine lt"); (case zqk11 => first | assumption | decide +kernel); (case zqk12 => ktr_room); (case zqk13 => ktr_units); k_whole); intro _ _ _ _ _ _ _ _ l1; (try k_lt l1); (try (revert l1; intro _)); (try k_sweep))) | fail "no")
  (k_with "mine call ref" => first | ((k_here; (with_reducible show wpAny _ _ (call (Value.ref 156) [Value.ref _, Value.str _ _]) _ _ _); k_dflt (refine' word_spec ?zqk1 ?zqk2 ?zqk3 ?zqk4 ?zqk5 ?zqk6 ?zqk7 ?zqk8 ?zqk9 ?zqk10 ?zqk11 ?zqk12 ?zqk13 ?_; (case zqk1 => k_asm); (case zqk2 => k_asm); (case zqk3 => k_asm); (case zqk4 => k_asm); (case zqk5 => k_asm); (case zqk6 => exact rfl); (case zqk7 => k_extra "mine mem"); (case zqk8 => k_extra "mine ints"); (case zqk9 => assumption); (case zqk10 => k_extra "mine lt"); (case zqk11 => first | assumption | decide +kernel); (case zqk12 => ktr_room); (case zqk13 => ktr_units); k_whole); intro _ _ _ _ _; (try k_sweep))) | fail "no")
  (k_with "mine call ref" => first | ((k_here; (with_reducible show wpAny _ _ (call (Value.ref 142) [Value.int _ _]) _ _ _); k_dflt (refine' octets_spec ?zqk1 ?zqk2 ?zqk3 ?zqk4 ?zqk5 ?zqk6 ?zqk7 ?zqk8 ?zqk9 ?zqk10 ?_; (case zqk1 => k_asm); (case zqk2 => k_asm); (case zqk3 => k_asm); (case zqk4 => k_asm); (case zqk5 => k_asm); (case zqk6 => exact rfl); (case zqk7 => assumption); (case zqk8 => assumption); (case zqk9 => ktr_room); (case zqk10 => ktr_units); k_whole); intro _ _ _ _ _ _ _ _ l1; (try k_lt l1); (try (revert l1; intro _)); (try k_sweep))) | fail "no")
  (k_with "mine call builtin:list.append" => first | ((k_here; (with_reducible show wpAny _ _ (call (Value.builtin "list.append") [Value.ref _, Value.str _ _]) _ _ _); k_dflt (refine' it_appendS ?zqk1 ?zqk2 ?zqk3 ?zqk4 ?_; (case zqk1 => k_asm); (case zqk2 => k_asm); (case zqk3 => k_extra "mine updF"); (case zqk4 => k_extra "mine lt"); k_whole); intro _ _ N'; (try dsimp only at N'); revert N'; intro _; (try k_sweep))) | fail "no")
  trivial
local macro_rules | `(tactic| walk_at "mine for") => `(tactic| ((rename Fr _ _ _ _ => lF'); (with_reducible refine for_go lF' ?k1 ?k2 ?k3 ?k4 ?_); (case k1 => exact rfl); (case k2 => exact rfl); (case k3 => intro _; rfl); (case k4 => passes_own)))
theorem reg13 : True := by
  (k_with "mine halt" => first | (( (fail_if_success (with_reducible show wpAny _ _ (call (Value.ref 66) _) _ _ _)); (fail_if_success (with_reducible show wpAny _ _ (call (Value.ref 142) _) _ _ _)); (fail_if_success (with_reducible show wpAny _ _ (call (Value.ref 38) _) _ _ _)); (fail_if_success (with_reducible show wpAny _ _ (call (Value.ref 45) _) _ _ _)); (fail_if_success (with_reducible show wpAny _ _ (call (Value.ref 52) _) _ _ _)); (fail_if_success (with_reducible show wpAny _ _ (call (Value.ref 59) _) _ _ _)); (fail_if_success (with_reducible show wpAny _ _ (call (Value.ref 135) _) _ _ _)); (fail_if_success (with_reducible show wpAny _ _ (call (Value.builtin "sorted") _) _ _ _)); (fail_if_success (with_reducible show wpAny _ _ (binaryOp Operator.Add (Value.ref _) (Value.ref _)) _ _ _)); (fail_if_success (with_reducible show wpAny _ _ (subscriptTail _ (Expr.Slice _ _ _ _) (Value.ref _) _) _ _ _)); (fail_if_success (with_reducible show wpAny _ _ (compareOp CmpOp.NotEq (Value.ref _) (Value.ref _)) _ _ _)); (fail_if_success (with_reducible show wpAny _ _ (exec (Stmt.Try _ _ _ _ _) _) _ _ _)); (fail_if_success (with_reducible show JoinQ _ _ _)); (fail_if_success (with_reducible show wpAny _ _ (compareOp CmpOp.Eq (Value.ref _) (Value.ref _)) _ _ _)); (fail_if_success (with_reducible show wpAny _ _ (call (Value.builtin "str.join") _) _ _ _)); (fail_if_success (with_reducible show UnrPostW _ _ _ _ _ _ _ _)); (fail_if_success (with_reducible show wpAny _ _ (subscriptTail _ _ (Value.str _ _) (Value.ref _)) _ _ _)); (fail_if_success (with_reducible show wpAny _ _ (pyIter (Value.ref _)) _ _ _)); (k_extra "mine stop"))) | fail "no")
  (k_with "mine run" => first | (repeat' (k_extra "mine halt"; first | (k_unfold; (try dsimp only)) | walk1 | (dsimp only; walk1) | (leave1; walk_say "STEP leave1"; try dsimp only))) | fail "no")
  (k_with "mine go" => first | (repeat' ((fail_if_success (with_reducible show wpAny _ _ (exec (Stmt.If _ _ _ _) _) _ _ _)); (fail_if_success (with_reducible show wpAny _ _ (subscriptTail _ _ (Value.ref _) _) _ _ _)); k_extra "mine halt"; first | (k_unfold; (try dsimp only)) | walk1 | (dsimp only; walk1) | (leave1; walk_say "STEP leave1"; try dsimp only))) | fail "no")
  (k_with "mine run2" => first | (repeat' ((fail_if_success (with_reducible show wpAny _ _ (subscriptTail _ _ (Value.ref _) _) _ _ _)); k_extra "mine halt"; first | (k_unfold; (try dsimp only)) | walk1 | (dsimp only; walk1) | (leave1; walk_say "STEP leave1"; try dsimp only))) | fail "no")
  trivial
theorem w_post {R : WRecords} {e : WCtx} (h : e.res = some (.bool true)) : (WTm.eq .res (.lit (.bool true))).value R e = some (.bool true) := w_eq_bool (w_res h) w_lit
set_option maxHeartbeats 0 in
theorem law_holds : PySem.Challenge.rw_ny0134_01.Holds := by
  w_on
  o_law
  rename_i said
  refine holds_open (q := H.qvOf PySem.Challenge.pw_ny0134_01) (loose := H.looseOf Str.ofString) (Xt := H.XtOf PySem.Challenge.pw_ny0134_01 Str.ofString) (XP := XL (H.qvOf PySem.Challenge.pw_ny0134_01) (H.lvOf Str.ofString)) (Yf := Hook.obs H.KH) (Ya := Hook.val H.KH) (YP := Hook.says H.KH) (N := nat_lit 35718) H.left (Hook.of H.KH) (Hook.keeps H.KH) (fun s e => xl_of s (Bool.and_eq_true_iff.mp e).1) XL.keeps (by rfl) (by rfl) (by rfl) (fun s e => recFacts_of (Bool.and_eq_true_iff.mp e).2) (by rfl) (by first | assumption | decide +kernel) (by decide +kernel) ⟨rfl, rfl, rfl, rfl, rfl, by decide +kernel⟩ ?hw ?hc
  case hw => w_witness2
  clear said
  w_on
  k_go0
  all_goals try k_fold
  (rename Fr _ _ _ _ => F0)
  (rename Shared => s₁)
  obtain ⟨m0, hm0, F1⟩ := fr_name F0
  clear F0
  rename_i ns0 _ _ _ _ _ _ _ D0 vs0 _ hL0 _ _ _ hI0 _ hlen0 _ _ _ _ _
  have em0 : m0 (Str.ofString "script") = some (.ref D0) := by rw [hm0]; rfl
  clear hm0
  generalize PySem.Challenge.rw_ny0134_01.row.prog = prog
  k_extra "mine steps"
  rename_i CS _ _ _ _ hp _ lhp _ _ RA _ lRA _ F1 N1
  walk_at "mine for"
  k_extra "mine steps"
  (rename Fr _ _ _ _ => F2)
  (rename News _ _ _ _ => N2)
  rename_i O1 _ _ O2 _ _ O3 _ _ O4 _ _ O5 _ _ O6 _ _ OL _ lOL
  have N3 := news_start6 N2
  clear N2
  refine for_list (J0 hp RA CS D0 OL (listOf [Value.ref O1, Value.ref O2, Value.ref O3, Value.ref O4, Value.ref O5, Value.ref O6].toArray 0)) rfl F2 N3 (.tail _ (.tail _ (.head _))) ?_ ?_ ?_
  · refine J0_start (t := fun k => _ + k) (by k_extra "mine look") (by k_extra "mine look") (by k_extra "mine look") (by k_extra "mine look") ?_
    simp only [List.mem_cons, List.not_mem_nil, or_false]
    rintro q (rfl | rfl | rfl | rfl | rfl | rfl | rfl | rfl) <;> exact ⟨by k_ne, by k_ne⟩
  · -- << first
    clear F2 N3
    rintro v r m nw I it h tk ⟨os, xs, hn, es, rn, led, rfl, hr, hos, m1, m2, m3, m4, hCS, hOL, hled, hrows, hxe, hln⟩ hc off F3 N3
    cases os with
    | nil => cases hr
    | cons o os =>
    obtain ⟨rfl, hr'⟩ : v = Value.ref o.D ∧ r = os.map (fun o => Value.ref o.D) := by simpa using hr
    have ho := hos o (.head _)
    have hoI := ho.i
    have hob := ho.b
    have ho6 := ho.six
    have hoM := ho.m
    have hIh : I ≠ hp := fun e => off _ (.head _) e.symm
    have hIR : I ≠ RA := fun e => off _ (.tail _ (.head _)) e.symm
    have hledh : ∀ q ∈ led, q.1 ≠ hp := fun q hq => (hled q hq).1
    have hledR : ∀ q ∈ led, q.1 ≠ RA := fun q hq => (hled q hq).2
    have hh1 : ∀ q ∈ (RA, listOf (refs es).toArray rn) :: led, q.1 ≠ hp := fun q hq => by
      rcases List.mem_cons.mp hq with rfl | hq
      · exact (by k_ne : RA ≠ hp)
      · exact hledh q hq
    have hxl : xs.length < 1000000 := by
      have h1 := congrArg List.length hxe
      simp only [List.length_map] at h1
      omega
    have hel : (refs es).length < 1000000 := by
      simp only [refs, List.length_map]; omega
    k_extra "mine steps"
    (rename Fr _ _ _ _ => F4)
    (rename News _ _ _ _ => N4)
    replace N4 := news_turn6 N4
    refine unr_next _ F4 N4 ?_ ⟨?_, ?_⟩
    · intro q hq
      rcases List.mem_cons.mp hq with rfl | hq
      · exact fun e => hIh e.symm
      rcases List.mem_cons.mp hq with rfl | hq
      · exact fun e => hIR e.symm
      rcases List.mem_cons.mp hq with rfl | hq
      · k_ne
      rcases List.mem_cons.mp hq with rfl | hq
      · k_ne
      · exact off q (.tail _ (.tail _ hq))
    · exact .tail _ (.tail _ (.tail _ (.tail _ hOL)))
    · rw [hr']
      exact J0_step ho (fun o h => hos o (.tail _ h)) (by k_extra "mine look") (by k_extra "mine look") (by k_extra "mine look") (by k_extra "mine look") hCS hOL hled hrows hxe hln ⟨by k_ne, by k_ne⟩ ⟨by k_ne, by k_ne⟩ (by assumption)
  · clear F2 N3
    rintro m nw h tk ⟨os, xs, hn, es, rn, led, rfl, hr, hos, m1, m2, m3, m4, hCS, hOL, hled, hrows, hxe, hln⟩ F3 N3
    cases os with
    | cons o os => cases hr
    | nil =>
    clear hr hos hOL
    dsimp only
    have hledh : ∀ q ∈ led, q.1 ≠ hp := fun q hq => (hled q hq).1
    have hledR : ∀ q ∈ led, q.1 ≠ RA := fun q hq => (hled q hq).2
    have hx6 : xs.length = 6 := by
      have h1 := congrArg List.length hxe
      simp only [List.length_map] at h1
      simpa using h1.trans (by simpa using hln)
    have hh1 : ∀ q ∈ (RA, listOf (refs es).toArray rn) :: led, q.1 ≠ hp := fun q hq => by
      rcases List.mem_cons.mp hq with rfl | hq
      · exact (by k_ne : RA ≠ hp)
      · exact hledh q hq
    k_extra "mine go"
    refine heapify_spec (by k_asm) F3 (by k_asm) N3 (by k_asm) (by exact rfl) hh1 hx6 (by ktr_room) (by ktr_units) ?_
    intro h4 tk4 F4 N4
    clear F3 N3
    k_extra "mine go"
    refine sorted_ents (by ktr_units) F4 N4 (.tail _ (.head _)) (by simp at hln; omega) (by simp at hln; omega) (fun e he => (hrows e he).1.mono fun p hp => .tail _ (.tail _ hp)) hrows.same ?_
    intro RB rbn h5 es1 hperm1 hsort1 F5 N5 l5
    clear F4 N4
    k_extra "mine go"
    (rename Fr _ _ _ _ => F6)
    (rename News _ _ _ _ => N6)
    walk_at "mine for"
    k_extra "mine go"
    refine kmk_slice_ints (by k_asm) (by k_asm) (Fr.lst (by k_asm) hL0) IsPart.none (IsPart.int _ _) hI0 (kmk_upto hI0 (by decide)) rfl ?_ (by with_unfolding_all rfl) (by kmk_pure) (by kmk_size)
    intro SL ws h7 F7 N7 l7 hI7 hC7 hL7
    dsimp only
    have N8 := news_start7 N7
    clear N7
    refine for_list (J1at hp CS SL (listOf ws.toArray 0) D0) rfl F7 N8 (.tail _ (.head _)) ?_ ?_ ?_
    · -- << start
      obtain ⟨hh6, hhp⟩ := heapify_heap hx6
      have hlen1 : es1.length = 6 := by rw [hperm1.length_eq]; simpa using hln
      refine ⟨_, _, _, es1, RB, rbn, ⟨_, [], 0, []⟩, _, rfl, hI7, ?_, by k_extra "mine look", by k_extra "mine look", by k_extra "mine look", by k_extra "mine look", ?_, .head _, .tail _ (.tail _ (.head _)), ⟨.tail _ (.head _), .nil, fun _ h => absurd h List.not_mem_nil, Nat.zero_le _⟩, ?_, ?_, hsort1, hh6, ?_⟩
      · rw [hlen1, List.length_take]
        show 6 + min 20 _ ≤ 26
        omega
      · obtain ⟨t, h⟩ := hCS
        exact ⟨t, .tail _ (.tail _ (.tail _ (.tail _ h)))⟩
      · intro q hq
        rcases List.mem_cons.mp hq with rfl | hq
        · exact lt_ne l7 (.tail _ (.tail _ (.head _)))
        rcases List.mem_cons.mp hq with rfl | hq
        · exact (by k_ne)
        rcases List.mem_cons.mp hq with rfl | hq
        · exact lt_ne l5 (.head _)
        · exact hh1 q hq
      · exact fun e he => ⟨(hrows e (hperm1.mem_iff.1 he)).1.mono fun p hp => .tail _ (.tail _ (.tail _ (.tail _ hp))), (hrows e (hperm1.mem_iff.1 he)).2⟩
      · have h9 : wds xs = es.map Ent.w := hxe
        rw [h9] at hhp
        exact hhp.trans (hperm1.map Ent.w).symm
    · -- << turn
      (try clear F7); (try clear N8)
      rintro v r m nw I it h tk ⟨ks, xs, hn, es, RB, rn, ah, led, rfl, hks, hlen, J⟩ hc off F8 N8
      cases hks with
      | cons k t hks =>
      rename_i ns9
      have m1 := J.m1
      have m2 := J.m2
      have m3 := J.m3
      have m4 := J.m4
      have hahm := J.ah.m
      have hahi := J.ah.i
      have hah6 := J.ah.six
      k_extra "mine go"
      have hnum := num_ok k
      refine octets_spec (by k_asm) (by k_asm) (by k_asm) (by k_asm) (by k_asm) rfl hnum.1 hnum.2 (by ktr_room) (by ktr_units) ?_
      have hoct := octL_ok 4 (((if k < 0 then -k else k).fdiv 5).fmod 10485760000).toNat
      generalize octL 4 (((if k < 0 then -k else k).fdiv 5).fmod 10485760000).toNat = ons at hoct
      obtain ⟨hoct4, hoctb⟩ := hoct
      intro O ov on h9 tk9 F9 N9 I9 l9
      clear F8 N8
      have hOhp : O ≠ hp := fun e => Nat.lt_irrefl _ (e ▸ l9 _ (.tail _ (.head _)))
      have hOI : O ≠ I := fun e => Nat.lt_irrefl _ (e ▸ l9 _ (.head _))
      k_extra "mine go"
      refine stmt_join (fun s' => ∃ h' tk' o led' m', s' = { s₁ with heap := h', toks := tk' } ∧ Mid1 s₁.heap s₁.heap.objs.size hp I it xs hn led RB CS k t o led' m' h') ?_ ?_
      · have hoff : ∀ q ∈ led, q.1 ≠ hp ∧ q.1 ≠ I := fun q hq => ⟨J.off q hq, off q (.tail _ hq)⟩
        k_extra "mine run"
        · refine it_addI (by k_asm) (by k_asm) (.tail _ (.tail _ (.tail _ hahm))) hahi (.head _) I9 (by omega) ?_
          intro P pv h10 F10 N10 l10 I10
          (try clear F9); (try clear N9)
          k_extra "mine run"
          refine slice_any (by k_asm) (by k_asm) (it_isList N10 (.head _)) IsPart.none (IsPart.int _ _) ?_ (by with_unfolding_all rfl) (by rw [List.size_toArray, I10.length, List.length_append]; omega)
          intro P2 h11 F11 N11 l11
          (try clear F10); (try clear N10)
          rw [← Array.toArray_toList (xs := slicePick _ _ _ _)] at N11
          have I11 := kmk_upto (y := 6) I10 (by decide)
          have h6 := take6 J.ah.b hoctb
          k_extra "mine run"
          refine ⟨rfl, _, _, ⟨P2, _, 0, _⟩, _, _, rfl, by k_asm, news_in3 (by k_asm), ⟨.head _, I11, h6.1, h6.2⟩, fun p hp => .tail _ (.tail _ (.tail _ hp)), ?_, by k_extra "mine look", by k_extra "mine look", by k_extra "mine look", by k_extra "mine look", by k_extra "mine look"⟩
          exact off_cons (lt_ne l11 (.tail _ (.tail _ (.tail _ (.head _))))) (lt_ne l11 (.tail _ (.tail _ (.head _)))) (off_cons (lt_ne l10 (.tail _ (.tail _ (.head _)))) (lt_ne l10 (.tail _ (.head _))) (off_cons hOhp hOI hoff))
        · refine ⟨rfl, _, _, ⟨O, ov, on, ons⟩, _, _, rfl, by k_asm, news_in (by k_asm), ⟨.head _, I9, hoctb, by show ons.length ≤ 6; omega⟩, fun p hp => .tail _ hp, ?_, by k_extra "mine look", by k_extra "mine look", by k_extra "mine look", by k_extra "mine look", by k_extra "mine look"⟩
          exact off_cons hOhp hOI hoff
      · clear hnum hoct4 hoctb I9 l9 hOhp hOI
        rintro s' ⟨h9, tk9, o, led', m', rfl, M⟩
        have F9 := M.F
        have N9 := M.N
        have m1 := M.m1
        have m2 := M.m2
        have m3 := M.m3
        have m4 := M.m4
        have m5 := M.m5
        have hom := M.oc.m
        have hoi := M.oc.i
        have hob := M.oc.b
        have ho6 := M.oc.six
        k_extra "mine go"
        obtain ⟨ct, hct⟩ := J.cs
        have hct' : (CS, slist (csL ct) 0) ∈ led' := M.sub _ hct
        refine it_get (by k_asm) (.tail _ (.tail _ hct')) (mod7 k).1 (show _ < 7 from (mod7 k).2) (show 7 < 2 ^ 62 by decide) ?_ (by with_unfolding_all rfl) (by intro _; with_unfolding_all rfl)
        have hcs := cs_ok (t := ct) (mod7 k).2
        generalize (csL ct).getD (k.fmod 7).toNat (Str.empty, 0) = cc at hcs
        obtain ⟨c, tc⟩ := cc
        obtain ⟨hc20, hc63⟩ := hcs
        dsimp only at hc20 hc63
        dsimp only [sv]
        k_extra "mine go"
        refine stmt_join (fun s' => ∃ h' tk' c tc tw m', s' = { s₁ with heap := h', toks := tk' } ∧ Mid2 s₁.heap s₁.heap.objs.size hp I it xs hn RB CS k t o led' c tc tw m' h') ?_ ?_
        · k_extra "mine run"
          · refine ⟨rfl, _, _, _, _, _, _, rfl, by k_asm, by k_asm, by k_extra "mine look", by k_extra "mine look", by k_extra "mine look", by k_extra "mine look", by k_extra "mine look", by k_extra "mine look", by k_extra "mine look", by k_extra "mine look", by rw [iso_ok.2]; decide, iso_ok.1⟩
          · refine ⟨rfl, _, _, _, _, _, _, rfl, by k_asm, by k_asm, by k_extra "mine look", by k_extra "mine look", by k_extra "mine look", by k_extra "mine look", by k_extra "mine look", by k_extra "mine look", by k_extra "mine look", by k_extra "mine look", hc20, hc63⟩
        · clear hc20 hc63 hct hct'
          rintro s' ⟨h9, tk9, c, tc, tw, m', rfl, M2⟩
          have F9 := M2.F
          have N9 := M2.N
          have m1 := M2.m1
          have m2 := M2.m2
          have m3 := M2.m3
          have m4 := M2.m4
          have m5 := M2.m5
          have m6 := M2.m6
          have m7 := M2.m7
          have m8 := M2.m8
          have hc20 := M2.c20
          have hc63 := M2.c63
          k_extra "mine run"
          · exfalso
            (rename (_ != _) = true => hbad)
            simp at hbad
          rename_i R us un _ _ hus lR wt _ _ T _ lT _ _ _ _ _ F10 N10
          obtain ⟨m10, hm10, F10'⟩ := fr_name F10
          clear F10 F9 N9
          have m1' : m10 (Str.ofString "heap") = some (.ref hp) := by rw [hm10]; k_extra "mine look"
          have m2' : m10 (Str.ofString "row") = some (.ref RB) := by rw [hm10]; k_extra "mine look"
          have m3' : m10 (Str.ofString "charsets") = some (.ref CS) := by rw [hm10]; k_extra "mine look"
          have m4' : m10 (Str.ofString "ahead") = some (.ref o.D) := by rw [hm10]; k_extra "mine look"
          have m5' : m10 (Str.ofString "entry") = some (.ref T) := by rw [hm10]; k_extra "mine look"
          have m6' : m10 (Str.ofString "word") = some (.str (wordS o.ns c) tw) := by rw [hm10]; k_extra "mine look"
          obtain ⟨td, m7'⟩ : ∃ td, m10 (Str.ofString "deed") = some (.int (k.fmod 5) td) := ⟨_, by rw [hm10]; k_extra "mine look"⟩
          obtain ⟨tg, m8'⟩ : ∃ tg, m10 (Str.ofString "got") = some (.str (Str.ofString "nothing") tg) := ⟨_, by rw [hm10]; k_extra "mine look"⟩
          clear hm10 m1 m2 m3 m4 m5 m6 m7 m8
          obtain ⟨e, led2, rfl, hew, N11, hEnt, hVal, hsub2, hoff2⟩ := entry_pack N10 M.oc hus hc20 hc63 ⟨by k_ne, by k_ne⟩ ⟨by k_ne, by k_ne⟩ M.off
          clear N10 lR lT hus
          have hd := mod5 k
          generalize k.fmod 5 = d at hd m7'
          have hneh : ∀ q ∈ (I, it) :: led2, q.1 ≠ hp := fun q hq => by
            rcases List.mem_cons.mp hq with rfl | hq
            · exact fun e => off _ (.head _) e.symm
            · exact (hoff2 q hq).1
          have hxl : xs.length < 900 := by
            have h1 := J.pm.length_eq
            simp only [List.length_map] at h1
            simp only [List.length_cons] at hlen
            omega
          refine stmt_join (fun s' => ∃ h' tk' xs' hn' g tg m', s' = { s₁ with heap := h', toks := tk' } ∧ Mid3 s₁.heap s₁.heap.objs.size hp I it xs' hn' RB CS e.T d td o led2 g tg m' h' ∧ Done d es e g xs') ?_ ?_
          · rcases hd with rfl | rfl | rfl | rfl | rfl
            · walk1
              k_extra "mine run"
              refine heappush_spec (x := (wordS o.ns c, tw)) (by k_asm) (by k_asm) (by k_asm) (by k_asm) (by k_asm) rfl hneh hxl (by ktr_room) (by ktr_units) ?_
              intro h12 tk12 F12 N12
              (try clear N11); (try clear F10')
              k_extra "mine run"
              refine ⟨rfl, _, _, _, _, _, _, _, rfl, ⟨by k_asm, news_swap (by k_asm), by k_extra "mine look", by k_extra "mine look", by k_extra "mine look", by k_extra "mine look", by k_extra "mine look", by k_extra "mine look", by k_extra "mine look"⟩, done_push (by decide) J.hq J.pm hew.symm⟩
            · walk1
              k_extra "mine run"
              refine heappush_spec (x := (wordS o.ns c, tw)) (by k_asm) (by k_asm) (by k_asm) (by k_asm) (by k_asm) rfl hneh hxl (by ktr_room) (by ktr_units) ?_
              intro h12 tk12 F12 N12
              (try clear N11); (try clear F10')
              k_extra "mine run"
              refine ⟨rfl, _, _, _, _, _, _, _, rfl, ⟨by k_asm, news_swap (by k_asm), by k_extra "mine look", by k_extra "mine look", by k_extra "mine look", by k_extra "mine look", by k_extra "mine look", by k_extra "mine look", by k_extra "mine look"⟩, done_push (by decide) J.hq J.pm hew.symm⟩
            · rcases xs with _ | ⟨y, ys'⟩
              · walk1
                k_extra "mine run"
                refine heappop0_spec (by k_asm) (by k_asm) (by k_asm) (by k_asm) (by k_asm) rfl (.head _) (by ktr_room) (by ktr_units) ?_
                intro g12 h12 tk12 ex F12 U12 R12
                (try clear N11)
                refine caught_N0 (T' := "IndexError") (by assumption) F12 U12 R12 (by k_asm) PyProof.Rows.Boot.«IndexError» PySem.F.isExc_IndexError PySem.F.notTuple_IndexError (by rw [isSubtype_type]; kernel_rfl) ?_
                intro h13 F13 N13
                (try clear F12); (try clear F10')
                k_extra "mine run"
                refine ⟨rfl, _, _, _, _, _, _, _, rfl, ⟨by k_asm, news_swap (by k_asm), by k_extra "mine look", by k_extra "mine look", by k_extra "mine look", by k_extra "mine look", by k_extra "mine look", by k_extra "mine look", by k_extra "mine look"⟩, done_pop0 (.inl rfl) J.pm⟩
              rcases snoc_cases ys' with rfl | ⟨ys, x, rfl⟩
              · walk1
                k_extra "mine run"
                refine heappop1_spec (x := y) (by k_asm) (by k_asm) (by k_asm) (by k_asm) (by k_asm) rfl hneh (by ktr_room) (by ktr_units) ?_
                intro h12 tk12 F12 N12
                (try clear N11); (try clear F10')
                k_extra "mine run"
                refine ⟨rfl, _, _, _, _, _, _, _, rfl, ⟨by k_asm, news_swap (by k_asm), by k_extra "mine look", by k_extra "mine look", by k_extra "mine look", by k_extra "mine look", by k_extra "mine look", by k_extra "mine look", by k_extra "mine look"⟩, done_pop1 J.rows.good J.up J.pm⟩
              · change News _ _ _ ((hp, slist ((y :: ys) ++ [x]) hn) :: _) at N11
                walk1
                k_extra "mine run"
                refine heappop_spec (y := y) (ys := ys) (x := x) (by k_asm) (by k_asm) (by k_asm) (by k_asm) (by k_asm) rfl hneh (by simp at hxl; omega) (by ktr_room) (by ktr_units) ?_
                intro h12 tk12 F12 N12
                (try clear N11); (try clear F10')
                k_extra "mine run"
                refine ⟨rfl, _, _, _, _, _, _, _, rfl, ⟨by k_asm, news_swap (by k_asm), by k_extra "mine look", by k_extra "mine look", by k_extra "mine look", by k_extra "mine look", by k_extra "mine look", by k_extra "mine look", by k_extra "mine look"⟩, done_pop J.rows.good J.up J.hq J.pm⟩
            · rcases xs with _ | ⟨y, ys⟩
              · walk1
                k_extra "mine run"
                refine heappushpop0_spec (x := (wordS o.ns c, tw)) (by k_asm) (by k_asm) (by k_asm) (by k_asm) (by k_asm) rfl hneh (by ktr_room) (by ktr_units) ?_
                intro h12 tk12 F12 N12
                (try clear N11); (try clear F10')
                k_extra "mine run"
                refine ⟨rfl, _, _, _, _, _, _, _, rfl, ⟨by k_asm, news_swap (by k_asm), by k_extra "mine look", by k_extra "mine look", by k_extra "mine look", by k_extra "mine look", by k_extra "mine look", by k_extra "mine look", by k_extra "mine look"⟩, done_pp0 (x := (wordS o.ns c, tw)) hew.symm hVal J.pm⟩
              by_cases hlt : y.1.cps.toList < (wordS o.ns c).cps.toList
              · walk1
                k_extra "mine run"
                refine heappushpopY_spec (y := y) (ys := ys) (x := (wordS o.ns c, tw)) (by k_asm) (by k_asm) (by k_asm) (by k_asm) (by k_asm) rfl hneh (by simp at hxl; omega) hlt (by ktr_room) (by ktr_units) ?_
                intro h12 tk12 F12 N12
                (try clear N11); (try clear F10')
                k_extra "mine run"
                refine ⟨rfl, _, _, _, _, _, _, _, rfl, ⟨by k_asm, news_swap (by k_asm), by k_extra "mine look", by k_extra "mine look", by k_extra "mine look", by k_extra "mine look", by k_extra "mine look", by k_extra "mine look", by k_extra "mine look"⟩, done_ppY (x := (wordS o.ns c, tw)) J.rows.good hew.symm hVal J.hq J.pm hlt⟩
              · walk1
                k_extra "mine run"
                refine heappushpopN_spec (y := y) (ys := ys) (x := (wordS o.ns c, tw)) (by k_asm) (by k_asm) (by k_asm) (by k_asm) (by k_asm) rfl hneh (by simp at hxl; omega) hlt (by ktr_room) (by ktr_units) ?_
                intro h12 tk12 F12 N12
                (try clear N11); (try clear F10')
                k_extra "mine run"
                refine ⟨rfl, _, _, _, _, _, _, _, rfl, ⟨by k_asm, news_swap (by k_asm), by k_extra "mine look", by k_extra "mine look", by k_extra "mine look", by k_extra "mine look", by k_extra "mine look", by k_extra "mine look", by k_extra "mine look"⟩, done_ppN (x := (wordS o.ns c, tw)) J.rows.good hew.symm hVal J.hq J.pm hlt⟩
            · rcases xs with _ | ⟨y, ys⟩
              · walk1
                k_extra "mine run"
                refine heapreplace0_spec (by k_asm) (by k_asm) (by k_asm) (by k_asm) (by k_asm) rfl (.head _) (by ktr_room) (by ktr_units) ?_
                intro g12 h12 tk12 ex F12 U12 R12
                (try clear N11)
                refine caught_N0 (T' := "IndexError") (by assumption) F12 U12 R12 (by k_asm) PyProof.Rows.Boot.«IndexError» PySem.F.isExc_IndexError PySem.F.notTuple_IndexError (by rw [isSubtype_type]; kernel_rfl) ?_
                intro h13 F13 N13
                (try clear F12); (try clear F10')
                k_extra "mine run"
                refine ⟨rfl, _, _, _, _, _, _, _, rfl, ⟨by k_asm, news_swap (by k_asm), by k_extra "mine look", by k_extra "mine look", by k_extra "mine look", by k_extra "mine look", by k_extra "mine look", by k_extra "mine look", by k_extra "mine look"⟩, done_pop0 (.inr rfl) J.pm⟩
              · walk1
                k_extra "mine run"
                refine heapreplace_spec (y := y) (ys := ys) (x := (wordS o.ns c, tw)) (by k_asm) (by k_asm) (by k_asm) (by k_asm) (by k_asm) rfl hneh (by simp at hxl; omega) (by ktr_room) (by ktr_units) ?_
                intro h12 tk12 F12 N12
                (try clear N11); (try clear F10')
                k_extra "mine run"
                refine ⟨rfl, _, _, _, _, _, _, _, rfl, ⟨by k_asm, news_swap (by k_asm), by k_extra "mine look", by k_extra "mine look", by k_extra "mine look", by k_extra "mine look", by k_extra "mine look", by k_extra "mine look", by k_extra "mine look"⟩, done_rep (x := (wordS o.ns c, tw)) J.rows.good J.up hew.symm J.hq J.pm⟩
          · clear hneh hxl N11 F10'
            rintro s' ⟨h9, tk9, xs', hn', g, tg', m', rfl, M3, hD⟩
            have F9 := M3.F
            have N9 := M3.N
            have m1 := M3.m1
            have m2 := M3.m2
            have m3 := M3.m3
            have m6 := M3.m6
            have m7 := M3.m7
            have m8 := M3.m8
            have m9 := M3.m9
            have hrb : (RB, listOf (refs es).toArray rn) ∈ led2 := hsub2 _ (M.sub _ J.rb)
            have hrows1 : Rows led2 es := J.rows.mono fun p hp => hsub2 _ (M.sub _ hp)
            have hrows2 : Rows led2 (es ++ [e]) := by
              obtain ⟨c, v⟩ := hVal
              exact rows_snoc hrows1 hEnt v
            have hl26 : es.length + (ns9.length + 1) ≤ 26 := by simpa using hlen
            have hcs2 : ∃ t, (CS, csObj t) ∈ led2 := by
              obtain ⟨t, h⟩ := J.cs
              exact ⟨t, hsub2 _ (M.sub _ h)⟩
            have hsl2 := hsub2 _ (M.sub _ J.sl)
            have ho2 := M.oc.mono hsub2
            have hhI : hp ≠ I := off _ (.head _)
            clear m1' m2' m3' m4' m5' m6' m7' m8'
            rcases hd with rfl | rfl | rfl | rfl | rfl
            · obtain ⟨rfl, hpm⟩ := hD.push (by decide)
              k_extra "mine run2"
              (try any_goals (exfalso; (rename (_ != _) = true => hbad); simp only [bne_self_eq_false] at hbad; exact Bool.noConfusion hbad))
              refine addV (vs := refs es) (us := [.ref e.T]) (by k_asm) (by k_asm) (.tail _ (.tail _ (.tail _ (hrb)))) (.head _) (by simp only [refs, List.length_map, List.length_cons, List.length_nil] at hl26 ⊢; omega) ?_
              intro P h10 F10 N10 l10
              rw [← refs_snoc] at N10
              (try clear F9); (try clear N9)
              k_extra "mine run2"
              (try any_goals (exfalso; (rename (_ != _) = true => hbad); simp only [bne_self_eq_false] at hbad; exact Bool.noConfusion hbad))
              refine sorted_ents (by ktr_units) (by k_asm) (by k_asm) (.head _) (by simp) (by simp only [List.length_append, List.length_cons, List.length_nil] at hl26 ⊢; omega) (fun x hx => (hrows2 x hx).1.mono fun p hp => .tail _ (.tail _ (.tail _ (.tail _ (hp))))) hrows2.same ?_
              intro RC rcn h11 es2 hperm hup F11 N11 l11
              (try clear F10); (try clear N10)
              k_extra "mine run2"
              (try any_goals (exfalso; (rename (_ != _) = true => hbad); simp only [bne_self_eq_false] at hbad; exact Bool.noConfusion hbad))
              exact turn_end (es' := es2) (by k_asm) (news_in3 (by k_asm)) (fun p hp => .tail _ (.tail _ (.tail _ (hp)))) (off_cons (lt_ne l11 (.tail _ (.tail _ (.tail _ (.head _))))) (lt_ne l11 (.tail _ (.tail _ (.head _)))) (off_cons (lt_ne l10 (.tail _ (.tail _ (.head _)))) (lt_ne l10 (.tail _ (.head _))) (off_cons (by k_ne) (by k_ne) hoff2))) hhI (by k_extra "mine look") (by k_extra "mine look") (by k_extra "mine look") (by k_extra "mine look") hcs2 hsl2 (by k_extra "mine mem") ho2 (fun x hx => hrows2 x (hperm.mem_iff.1 hx)) hup hD.hp (pm_snoc hpm hperm) hks (by have h9 := hperm.length_eq; simp only [List.length_append, List.length_cons, List.length_nil] at h9 hl26 ⊢; omega)
            · obtain ⟨rfl, hpm⟩ := hD.push (by decide)
              k_extra "mine run2"
              (try any_goals (exfalso; (rename (_ != _) = true => hbad); simp only [bne_self_eq_false] at hbad; exact Bool.noConfusion hbad))
              refine addV (vs := refs es) (us := [.ref e.T]) (by k_asm) (by k_asm) (.tail _ (.tail _ (.tail _ (hrb)))) (.head _) (by simp only [refs, List.length_map, List.length_cons, List.length_nil] at hl26 ⊢; omega) ?_
              intro P h10 F10 N10 l10
              rw [← refs_snoc] at N10
              (try clear F9); (try clear N9)
              k_extra "mine run2"
              (try any_goals (exfalso; (rename (_ != _) = true => hbad); simp only [bne_self_eq_false] at hbad; exact Bool.noConfusion hbad))
              refine sorted_ents (by ktr_units) (by k_asm) (by k_asm) (.head _) (by simp) (by simp only [List.length_append, List.length_cons, List.length_nil] at hl26 ⊢; omega) (fun x hx => (hrows2 x hx).1.mono fun p hp => .tail _ (.tail _ (.tail _ (.tail _ (hp))))) hrows2.same ?_
              intro RC rcn h11 es2 hperm hup F11 N11 l11
              (try clear F10); (try clear N10)
              k_extra "mine run2"
              (try any_goals (exfalso; (rename (_ != _) = true => hbad); simp only [bne_self_eq_false] at hbad; exact Bool.noConfusion hbad))
              exact turn_end (es' := es2) (by k_asm) (news_in3 (by k_asm)) (fun p hp => .tail _ (.tail _ (.tail _ (hp)))) (off_cons (lt_ne l11 (.tail _ (.tail _ (.tail _ (.head _))))) (lt_ne l11 (.tail _ (.tail _ (.head _)))) (off_cons (lt_ne l10 (.tail _ (.tail _ (.head _)))) (lt_ne l10 (.tail _ (.head _))) (off_cons (by k_ne) (by k_ne) hoff2))) hhI (by k_extra "mine look") (by k_extra "mine look") (by k_extra "mine look") (by k_extra "mine look") hcs2 hsl2 (by k_extra "mine mem") ho2 (fun x hx => hrows2 x (hperm.mem_iff.1 hx)) hup hD.hp (pm_snoc hpm hperm) hks (by have h9 := hperm.length_eq; simp only [List.length_append, List.length_cons, List.length_nil] at h9 hl26 ⊢; omega)
            · rcases es with _ | ⟨f, r'⟩
              · obtain ⟨rfl, rfl⟩ := hD.none (.inl rfl) rfl
                k_extra "mine run2"
                (try any_goals (exfalso; (rename (_ != _) = true => hbad); simp only [bne_self_eq_false] at hbad; exact Bool.noConfusion hbad))
                refine ne_nil (vs := refs []) (by k_asm) (.tail _ (.tail _ (.tail _ (hrb)))) (.head _) (by ktr_units) ?_
                rw [show (!decide (refs [] = [])) = false from by simp [refs]]
                k_extra "mine run2"
                (try any_goals (exfalso; (rename (_ != _) = true => hbad); simp only [bne_self_eq_false] at hbad; exact Bool.noConfusion hbad))
                refine slice_any (by k_asm) (by k_asm) (it_isList (its := (refs []).toArray) (by k_asm) (.tail _ (.tail _ (.tail _ (hrb))))) (IsPart.int _ _) IsPart.none ?_ (by with_unfolding_all rfl) (by simp only [refs, List.size_toArray, List.length_map, List.length_cons, List.length_nil] at hl26 ⊢; omega)
                intro SS h12 F12 N12 l12
                rw [show slicePick (refs []).toArray (some 1) none none = ((refs []).drop 1).toArray from drop1 _] at N12
                k_extra "mine run2"
                (try any_goals (exfalso; (rename (_ != _) = true => hbad); simp only [bne_self_eq_false] at hbad; exact Bool.noConfusion hbad))
                exact turn_end (es' := []) (by k_asm) (news_in2 (by k_asm)) (fun p hp => .tail _ (.tail _ (hp))) (off_cons (lt_ne l12 (.tail _ (.tail _ (.head _)))) (lt_ne l12 (.tail _ (.head _))) (off_cons (by k_ne) (by k_ne) hoff2)) hhI (by k_extra "mine look") (by k_extra "mine look") (by k_extra "mine look") (by k_extra "mine look") hcs2 hsl2 (by k_extra "mine mem") ho2 (fun _ h => absurd h List.not_mem_nil) List.Pairwise.nil hD.hp (.refl _) hks (by simp only [List.length_cons, List.length_nil] at hl26 ⊢; omega)
              · obtain ⟨rfl, hpm⟩ := hD.pop rfl f r' rfl
                k_extra "mine run2"
                (try any_goals (exfalso; (rename (_ != _) = true => hbad); simp only [bne_self_eq_false] at hbad; exact Bool.noConfusion hbad))
                refine ne_nil (vs := refs (f :: r')) (by k_asm) (.tail _ (.tail _ (.tail _ (hrb)))) (.head _) (by ktr_units) ?_
                rw [show (!decide (refs (f :: r') = [])) = true from by simp [refs]]
                k_extra "mine run2"
                (try any_goals (exfalso; (rename (_ != _) = true => hbad); simp only [bne_self_eq_false] at hbad; exact Bool.noConfusion hbad))
                refine kim_list (l := refs (f :: r')) (by k_asm) (.tail _ (.tail _ (.tail _ (hrb)))) rfl rfl (by decide) (by decide) rfl ?_ (by with_unfolding_all rfl) (by intro _; with_unfolding_all rfl)
                k_extra "mine run2"
                (try any_goals (exfalso; (rename (_ != _) = true => hbad); simp only [bne_self_eq_false] at hbad; exact Bool.noConfusion hbad))
                refine item_tupleT (ent_tup (by k_asm) (.tail _ (.tail _ (.tail _ ((hrows1 f (.head _)).1.t))))) (by decide) (by decide) rfl rfl ?_ (by with_unfolding_all rfl)
                k_extra "mine run2"
                (try any_goals (exfalso; (rename (_ != _) = true => hbad); simp only [bne_self_eq_false] at hbad; exact Bool.noConfusion hbad))
                refine slice_any (by k_asm) (by k_asm) (it_isList (its := (refs (f :: r')).toArray) (by k_asm) (.tail _ (.tail _ (.tail _ (hrb))))) (IsPart.int _ _) IsPart.none ?_ (by with_unfolding_all rfl) (by simp only [refs, List.size_toArray, List.length_map, List.length_cons, List.length_nil] at hl26 ⊢; omega)
                intro SS h12 F12 N12 l12
                rw [show slicePick (refs (f :: r')).toArray (some 1) none none = ((refs (f :: r')).drop 1).toArray from drop1 _] at N12
                k_extra "mine run2"
                (try any_goals (exfalso; (rename (_ != _) = true => hbad); simp only [bne_self_eq_false] at hbad; exact Bool.noConfusion hbad))
                exact turn_end (es' := r') (by k_asm) (news_in2 (by k_asm)) (fun p hp => .tail _ (.tail _ (hp))) (off_cons (lt_ne l12 (.tail _ (.tail _ (.head _)))) (lt_ne l12 (.tail _ (.head _))) (off_cons (by k_ne) (by k_ne) hoff2)) hhI (by k_extra "mine look") (by k_extra "mine look") (by k_extra "mine look") (by k_extra "mine look") hcs2 hsl2 (by k_extra "mine mem") ho2 (fun x hx => hrows1 x (.tail _ hx)) J.up.of_cons hD.hp hpm hks (by simp only [List.length_cons, List.length_nil] at hl26 ⊢; omega)
            · k_extra "mine run2"
              (try any_goals (exfalso; (rename (_ != _) = true => hbad); simp only [bne_self_eq_false] at hbad; exact Bool.noConfusion hbad))
              refine addV (vs := refs es) (us := [.ref e.T]) (by k_asm) (by k_asm) (.tail _ (.tail _ (.tail _ (hrb)))) (.head _) (by simp only [refs, List.length_map, List.length_cons, List.length_nil] at hl26 ⊢; omega) ?_
              intro P h10 F10 N10 l10
              rw [← refs_snoc] at N10
              (try clear F9); (try clear N9)
              k_extra "mine run2"
              (try any_goals (exfalso; (rename (_ != _) = true => hbad); simp only [bne_self_eq_false] at hbad; exact Bool.noConfusion hbad))
              refine sorted_ents (by ktr_units) (by k_asm) (by k_asm) (.head _) (by simp) (by simp only [List.length_append, List.length_cons, List.length_nil] at hl26 ⊢; omega) (fun x hx => (hrows2 x hx).1.mono fun p hp => .tail _ (.tail _ (.tail _ (.tail _ (hp))))) hrows2.same ?_
              intro RC rcn h11 es2 hperm hup F11 N11 l11
              (try clear F10); (try clear N10)
              rcases es2 with _ | ⟨f, r'⟩
              · exfalso
                have h9 := hperm.length_eq
                simp at h9
              obtain ⟨rfl, hpm⟩ := hD.pp rfl f r' hperm hup
              have hr9 : (f :: r').length < 100 := by
                rw [hperm.length_eq, List.length_append, List.length_cons, List.length_nil]
                omega
              k_extra "mine run2"
              (try any_goals (exfalso; (rename (_ != _) = true => hbad); simp only [bne_self_eq_false] at hbad; exact Bool.noConfusion hbad))
              refine ne_nil (vs := refs (f :: r')) (by k_asm) (.tail _ (.head _)) (.head _) (by ktr_units) ?_
              rw [show (!decide (refs (f :: r') = [])) = true from by simp [refs]]
              k_extra "mine run2"
              (try any_goals (exfalso; (rename (_ != _) = true => hbad); simp only [bne_self_eq_false] at hbad; exact Bool.noConfusion hbad))
              refine kim_list (l := refs (f :: r')) (by k_asm) (.tail _ (.head _)) rfl rfl (by decide) (by decide) rfl ?_ (by with_unfolding_all rfl) (by intro _; with_unfolding_all rfl)
              k_extra "mine run2"
              (try any_goals (exfalso; (rename (_ != _) = true => hbad); simp only [bne_self_eq_false] at hbad; exact Bool.noConfusion hbad))
              refine item_tupleT (ent_tup (by k_asm) (.tail _ (.tail _ (.tail _ (.tail _ (.tail _ (.tail _ ((hrows2 f (hperm.mem_iff.1 (.head _))).1.t)))))))) (by decide) (by decide) rfl rfl ?_ (by with_unfolding_all rfl)
              k_extra "mine run2"
              (try any_goals (exfalso; (rename (_ != _) = true => hbad); simp only [bne_self_eq_false] at hbad; exact Bool.noConfusion hbad))
              refine slice_any (by k_asm) (by k_asm) (it_isList (its := (refs (f :: r')).toArray) (by k_asm) (.tail _ (.head _))) (IsPart.int _ _) IsPart.none ?_ (by with_unfolding_all rfl) (by simp only [refs, List.size_toArray, List.length_map, List.length_cons, List.length_nil] at hr9 ⊢; omega)
              intro SS h12 F12 N12 l12
              rw [show slicePick (refs (f :: r')).toArray (some 1) none none = ((refs (f :: r')).drop 1).toArray from drop1 _] at N12
              k_extra "mine run2"
              (try any_goals (exfalso; (rename (_ != _) = true => hbad); simp only [bne_self_eq_false] at hbad; exact Bool.noConfusion hbad))
              exact turn_end (es' := r') (by k_asm) (news_in5 (by k_asm)) (fun p hp => .tail _ (.tail _ (.tail _ (.tail _ (.tail _ (hp)))))) (off_cons (lt_ne l12 (.tail _ (.tail _ (.tail _ (.tail _ (.tail _ (.head _))))))) (lt_ne l12 (.tail _ (.tail _ (.tail _ (.tail _ (.head _)))))) (off_cons (by k_ne) (by k_ne) (off_cons (lt_ne l11 (.tail _ (.tail _ (.tail _ (.head _))))) (lt_ne l11 (.tail _ (.tail _ (.head _)))) (off_cons (lt_ne l10 (.tail _ (.tail _ (.head _)))) (lt_ne l10 (.tail _ (.head _))) (off_cons (by k_ne) (by k_ne) hoff2))))) hhI (by k_extra "mine look") (by k_extra "mine look") (by k_extra "mine look") (by k_extra "mine look") hcs2 hsl2 (by k_extra "mine mem") ho2 (fun x hx => hrows2 x (hperm.mem_iff.1 (.tail _ hx))) hup.of_cons hD.hp hpm hks (by have h9 := hperm.length_eq; simp only [List.length_append, List.length_cons, List.length_nil] at h9 hl26 ⊢; omega)
            · rcases es with _ | ⟨f, r'⟩
              · obtain ⟨rfl, rfl⟩ := hD.none (.inr rfl) rfl
                k_extra "mine run2"
                (try any_goals (exfalso; (rename (_ != _) = true => hbad); simp only [bne_self_eq_false] at hbad; exact Bool.noConfusion hbad))
                refine ne_nil (vs := refs []) (by k_asm) (.tail _ (.tail _ (.tail _ (hrb)))) (.head _) (by ktr_units) ?_
                rw [show (!decide (refs [] = [])) = false from by simp [refs]]
                k_extra "mine run2"
                (try any_goals (exfalso; (rename (_ != _) = true => hbad); simp only [bne_self_eq_false] at hbad; exact Bool.noConfusion hbad))
                refine slice_any (by k_asm) (by k_asm) (it_isList (its := (refs []).toArray) (by k_asm) (.tail _ (.tail _ (.tail _ (hrb))))) (IsPart.int _ _) IsPart.none ?_ (by with_unfolding_all rfl) (by simp only [refs, List.size_toArray, List.length_map, List.length_cons, List.length_nil] at hl26 ⊢; omega)
                intro SS h12 F12 N12 l12
                rw [show slicePick (refs []).toArray (some 1) none none = ((refs []).drop 1).toArray from drop1 _] at N12
                k_extra "mine run2"
                (try any_goals (exfalso; (rename (_ != _) = true => hbad); simp only [bne_self_eq_false] at hbad; exact Bool.noConfusion hbad))
                exact turn_end (es' := []) (by k_asm) (news_in2 (by k_asm)) (fun p hp => .tail _ (.tail _ (hp))) (off_cons (lt_ne l12 (.tail _ (.tail _ (.head _)))) (lt_ne l12 (.tail _ (.head _))) (off_cons (by k_ne) (by k_ne) hoff2)) hhI (by k_extra "mine look") (by k_extra "mine look") (by k_extra "mine look") (by k_extra "mine look") hcs2 hsl2 (by k_extra "mine mem") ho2 (fun _ h => absurd h List.not_mem_nil) List.Pairwise.nil hD.hp (.refl _) hks (by simp only [List.length_cons, List.length_nil] at hl26 ⊢; omega)
              · obtain ⟨rfl, hpm⟩ := hD.rep rfl f r' rfl
                have hfw : f.w ≠ Str.ofString "IndexError" := by
                  obtain ⟨c, v⟩ := (hrows1 f (.head _)).2
                  rw [v.w]
                  exact word_not_ie f.ns c
                have hrows3 : Rows led2 (r' ++ [e]) := by
                  obtain ⟨c, v⟩ := hVal
                  exact rows_snoc (fun x hx => hrows1 x (.tail _ hx)) hEnt v
                k_extra "mine run2"
                (try any_goals (exfalso; (rename (_ != _) = true => hbad); simp only [bne_self_eq_false] at hbad; exact Bool.noConfusion hbad))
                refine ne_nil (vs := refs (f :: r')) (by k_asm) (.tail _ (.tail _ (.tail _ (hrb)))) (.head _) (by ktr_units) ?_
                rw [show (!decide (refs (f :: r') = [])) = true from by simp [refs]]
                k_extra "mine run2"
                (try any_goals (exfalso; (rename (_ != _) = true => hbad); simp only [bne_self_eq_false] at hbad; exact Bool.noConfusion hbad))
                refine kim_list (l := refs (f :: r')) (by k_asm) (.tail _ (.tail _ (.tail _ (hrb)))) rfl rfl (by decide) (by decide) rfl ?_ (by with_unfolding_all rfl) (by intro _; with_unfolding_all rfl)
                k_extra "mine run2"
                (try any_goals (exfalso; (rename (_ != _) = true => hbad); simp only [bne_self_eq_false] at hbad; exact Bool.noConfusion hbad))
                refine item_tupleT (ent_tup (by k_asm) (.tail _ (.tail _ (.tail _ ((hrows1 f (.head _)).1.t))))) (by decide) (by decide) rfl rfl ?_ (by with_unfolding_all rfl)
                k_extra "mine run2"
                (try any_goals (exfalso; (rename (_ != _) = true => hbad); simp only [bne_self_eq_false] at hbad; exact Bool.noConfusion hbad))
                refine slice_any (by k_asm) (by k_asm) (it_isList (its := (refs (f :: r')).toArray) (by k_asm) (.tail _ (.tail _ (.tail _ (hrb))))) (IsPart.int _ _) IsPart.none ?_ (by with_unfolding_all rfl) (by simp only [refs, List.size_toArray, List.length_map, List.length_cons, List.length_nil] at hl26 ⊢; omega)
                intro SS h12 F12 N12 l12
                rw [show slicePick (refs (f :: r')).toArray (some 1) none none = ((refs (f :: r')).drop 1).toArray from drop1 _] at N12
                k_extra "mine run2"
                (try any_goals (exfalso; (rename (_ != _) = true => hbad); simp only [bne_self_eq_false] at hbad; exact Bool.noConfusion hbad))
                rotate_left
                · exfalso
                  have hb3 : (f.w != Str.ofString "IndexError") = false := by assumption
                  simp at hb3
                  exact hfw hb3
                refine addV (vs := refs r') (us := [.ref e.T]) (by k_asm) (by k_asm) (.tail _ (.head _)) (.head _) (by simp only [refs, List.length_map, List.length_cons, List.length_nil] at hl26 ⊢; omega) ?_
                intro P h10 F10 N10 l10
                rw [← refs_snoc] at N10
                (try clear F9); (try clear N9)
                k_extra "mine run2"
                (try any_goals (exfalso; (rename (_ != _) = true => hbad); simp only [bne_self_eq_false] at hbad; exact Bool.noConfusion hbad))
                refine sorted_ents (by ktr_units) (by k_asm) (by k_asm) (.head _) (by simp) (by simp only [List.length_append, List.length_cons, List.length_nil] at hl26 ⊢; omega) (fun x hx => (hrows3 x hx).1.mono fun p hp => .tail _ (.tail _ (.tail _ (.tail _ (.tail _ (.tail _ (hp))))))) hrows3.same ?_
                intro RC rcn h11 es2 hperm hup F11 N11 l11
                (try clear F10); (try clear N10)
                k_extra "mine run2"
                (try any_goals (exfalso; (rename (_ != _) = true => hbad); simp only [bne_self_eq_false] at hbad; exact Bool.noConfusion hbad))
                exact turn_end (es' := es2) (by k_asm) (news_in5 (by k_asm)) (fun p hp => .tail _ (.tail _ (.tail _ (.tail _ (.tail _ (hp)))))) (off_cons (lt_ne l11 (.tail _ (.tail _ (.tail _ (.tail _ (.tail _ (.head _))))))) (lt_ne l11 (.tail _ (.tail _ (.tail _ (.tail _ (.head _)))))) (off_cons (lt_ne l10 (.tail _ (.tail _ (.tail _ (.tail _ (.head _)))))) (lt_ne l10 (.tail _ (.tail _ (.tail _ (.head _))))) (off_cons (by k_ne) (by k_ne) (off_cons (lt_ne l12 (.tail _ (.tail _ (.head _)))) (lt_ne l12 (.tail _ (.head _))) (off_cons (by k_ne) (by k_ne) hoff2))))) hhI (by k_extra "mine look") (by k_extra "mine look") (by k_extra "mine look") (by k_extra "mine look") hcs2 hsl2 (by k_extra "mine mem") ho2 (fun x hx => hrows3 x (hperm.mem_iff.1 hx)) hup hD.hp (pm_snoc hpm hperm) hks (by have h9 := hperm.length_eq; simp only [List.length_append, List.length_cons, List.length_nil] at h9 hl26 ⊢; omega)
    · (try clear F7); (try clear N8)
      clear l7 l5 hperm1 hsort1 hI7 hC7 hL7
      rintro m nw h tk ⟨ks, xs, hn, es, RB, rn, ah, led, rfl, hks, hlen, J⟩ F8 N8
      dsimp only
      have m1 := J.m1
      have m2 := J.m2
      have hpl := J.pm.length_eq
      simp only [List.length_map] at hpl
      have hxl : xs.length < 900 := by omega
      k_extra "mine run2"
      walk_at "mine for"
      k_extra "mine run2"
      (rename Fr _ _ _ _ => F9)
      (rename News _ _ _ _ => N9)
      refine for_rng (n := xs.length - 1) (fun m' => m' (Str.ofString "heap") = some (.ref hp) ∧ m' (Str.ofString "row") = some (.ref RB)) rfl (by assumption) (small_one (by decide) (by decide) (by omega) (by omega)) rng_size F9 N9 ⟨m1, m2⟩ ?_ ?_
      · -- << range
        clear F9 N9
        rintro i ti m' I it h9 tk9 hi ⟨mh, mr⟩ offI F9 N9
        have hk1 : (1 + (i : Int)) = ((1 + i : Nat) : Int) := by omega
        have hk2 : (1 + (i : Int) - 1).fdiv 2 = ((i / 2 : Nat) : Int) := by
          rw [Int.fdiv_eq_ediv_of_nonneg _ (by decide)]; omega
        have hheap := J.hq (1 + i) (by omega) (by omega) (Nat.zero_le _)
        rw [show (1 + i - 1) / 2 = i / 2 by omega] at hheap
        k_extra "mine run2"
        refine it_get (xs := xs) (n := hn) (by k_asm) (.tail _ (.head _)) hk1 (by omega) (by omega) ?_ (by with_unfolding_all rfl) (by intro _; with_unfolding_all rfl)
        k_extra "mine run2"
        refine it_get (xs := xs) (n := hn) (by k_asm) (.tail _ (.head _)) hk2 (by omega) (by omega) ?_ (by with_unfolding_all rfl) (by intro _; with_unfolding_all rfl)
        k_extra "mine run2"
        exact unr_next _ (by k_asm) (by k_asm) offI ⟨rfl, by k_extra "mine look", by k_extra "mine look"⟩
      · clear F9 N9
        rintro m' h9 tk9 ⟨mh, mr⟩ F9 N9
        dsimp only
        k_extra "mine run2"
        (rename Fr _ _ _ _ => F10)
        (with_reducible refine for_goT F10 ?k3 ?k4 ?_)
        case k3 => intro _; rfl
        case k4 => passes_own
        k_extra "mine run2"
        refine for_tup (J2 hp (RB, listOf (refs es).toArray rn)) rfl (by k_asm) (by k_asm) (.tail _ J.rb) ?_ ?_ ?_
        · exact ⟨xs, hn, es, led, rfl, J.rb, rfl, mh, J.off, J.rows, J.up, J.hq, J.pm, by omega⟩
        · -- << lastturn
          rintro v r m2 nw I it h10 tk10 ⟨xs2, hn2, es2, led2, rfl, hrb2, hr2, mh2, hoff2, hrows2, hup2, hq2, hpm2, hlen2⟩ offI F11 N11
          rcases es2 with _ | ⟨e, es3⟩
          · cases hr2
          obtain ⟨rfl, rfl⟩ : v = .ref e.T ∧ r = refs es3 := by simpa [refs] using hr2
          rcases xs2 with _ | ⟨⟨yw, yt⟩, t2⟩
          · have h9 := hpm2.length_eq
            simp at h9
          obtain ⟨hy, hpm3⟩ := meet hrows2.good hup2 (heap_least hq2) hpm2
          dsimp only at hy
          subst hy
          have hE := (hrows2 e (.head _)).1
          obtain ⟨c, hV⟩ := (hrows2 e (.head _)).2
          have hhI : hp ≠ I := offI _ (.head _)
          have hoff3 : ∀ q ∈ led2, q.1 ≠ hp ∧ q.1 ≠ I := fun q hq => ⟨hoff2 q hq, offI q (.tail _ hq)⟩
          have hneh : ∀ q ∈ (I, it) :: led2, q.1 ≠ hp := fun q hq => by
            rcases List.mem_cons.mp hq with rfl | hq
            · exact fun e => hhI e.symm
            · exact hoff2 q hq
          have ht2 : t2.length < 900 := by
            have h9 := hpm3.length_eq
            simp only [List.length_map, List.length_cons] at h9 hlen2
            omega
          refine unpackN_ F11 N11 (ent_tup N11 (.tail _ (.tail _ hE.t))) rfl rfl rfl ?_
          intro h12 F12 N12
          clear F11 N11
          k_extra "mine run2"
          refine heappop_any (y := (e.w, yt)) (by k_asm) (by k_asm) (by k_asm) (news_swap (by k_asm)) (by k_asm) rfl hneh ht2 hq2 (by ktr_room) (by ktr_units) ?_
          intro h13 tk13 xs3 n3 hq3 hp3 F13 N13
          replace N13 := news_swap N13
          (try clear F12); (try clear N12)
          dsimp only [sv]
          k_extra "mine run2"
          · exfalso
            (rename (_ != _) = true => hbad)
            simp only [bne_self_eq_false] at hbad
            exact Bool.noConfusion hbad
          (rename Addr => X)
          refine it_neI (ns := e.ns) (ms := []) (us := []) (by k_asm) (.tail _ (.tail _ (.tail _ hE.o))) hE.oi (.head _) .nil (by ktr_units) ?_
          have hX1 : X ≠ hp := by k_ne
          have hX2 : X ≠ I := by k_ne
          by_cases hns : e.ns = []
          · rw [show (!decide (e.ns = [])) = false by simp [hns]]
            k_extra "mine run2"
            exact last_end (by k_asm) (news_in (by k_asm)) (fun p hp => .tail _ hp) (off_cons hX1 hX2 hoff3) hhI (by k_extra "mine look") hrb2 (fun x hx => hrows2 x (.tail _ hx)) hup2.of_cons hq3 (hp3.trans hpm3) (by simp only [List.length_cons] at hlen2; omega)
          · rw [show (!decide (e.ns = [])) = true by simp [hns]]
            k_extra "mine run2"
            have hwl : e.w.length ≤ sizeLine := by rw [hV.w]; exact word_len hV.six hV.len
            refine slice_strN_ss (s := ⟨_, _, _, _, _⟩) (by k_asm) (by k_asm) ?_ (by with_unfolding_all rfl) (by intro _; with_unfolding_all rfl) hwl
            intro h14 t14 k14 F14 N14
            (try clear F13); (try clear N13)
            have hx14 : (Txt.slice e.w (some (e.sz + 5)) (some (-2))).cps.toList = e.ns.flatMap (fun o => (signS o).cps.toList) := by
              rw [hV.w, ← hV.sz]; exact word_mid hns
            k_extra "mine run2"
            refine decode_spec (full := e.ns) (by k_asm) (by k_asm) (by k_asm) (by k_asm) (by k_asm) rfl (by ktr_room) (by ktr_units) hx14 hV.oct hV.six ?_
            intro z z1 h15 tk15 hz F15 N15
            (try clear F14); (try clear N14)
            k_extra "mine run2"
            (rename Fr _ _ _ _ => F16)
            (rename News _ _ _ _ => N16)
            refine comp_ints (ns := e.ns) (fun k => (⟨#[k.toNat]⟩ : Str)) F16 N16 (.tail _ (.tail _ (.tail _ hE.o))) hE.oi (fun Q' h => ld F16 (by k_extra "mine look") h) rfl (by decide) (by decide) rfl (by decide) rfl (by have := hV.six; omega) ?_ ?_ (by intro _; rfl)
            · intro C k u s₃ m₃ E' hkn hns3 hm3 keep3
              have keepg := fun b o (e : s₁.heap.get? b = some o) => keep3 b o (F16.keep b o e)
              have hkb := hV.oct k hkn
              k_extra "mine steps"
              exact ⟨_, _, rfl, fun _ _ e => e⟩
            · intro D us n16 h17 tk17 F17 N17 hS hneD
              k_extra "mine run2"
              refine join_list (it_isList (by k_asm) (.head _)) hS (join_room hV.six) ?_
              intro t18 k18
              have hz2 : z = Txt.join (Str.ofString "") (e.ns.map fun k => (⟨#[k.toNat]⟩ : Str)) := str_ext (hz.trans (join_chars _).symm)
              rw [← hz2]
              k_extra "mine run2"
              · exfalso
                (rename (_ != _) = true => hbad)
                simp only [bne_self_eq_false] at hbad
                exact Bool.noConfusion hbad
              exact last_end (by k_asm) (news_in2 (by k_asm)) (fun p hp => .tail _ (.tail _ hp)) (off_cons (fun e => hneD _ (.tail _ (.tail _ (.head _))) e.symm) (fun e => hneD _ (.tail _ (.head _)) e.symm) (off_cons hX1 hX2 hoff3)) hhI (by k_extra "mine look") hrb2 (fun x hx => hrows2 x (.tail _ hx)) hup2.of_cons hq3 (hp3.trans hpm3) (by simp only [List.length_cons] at hlen2; omega)
        · rintro m2 nw h10 tk10 ⟨xs2, hn2, es2, led2, rfl, hrb2, hr2, mh2, hoff2, hrows2, hup2, hq2, hpm2, hlen2⟩ F11 N11
          have hes : es2 = [] := by
            cases es2 with
            | nil => rfl
            | cons e l => cases hr2
          subst hes
          have hxs : xs2 = [] := by
            have h1 := hpm2.length_eq
            simp only [List.length_map, List.length_nil] at h1
            exact List.length_eq_zero_iff.1 h1
          dsimp only
          k_extra "mine run2"
          refine eq_nilS (by k_asm) (.tail _ (.head _)) (.head _) (by ktr_units) hxs ?_
          k_extra "mine run2"
          k_end
          w_end
          refine goodW_bool (by assumption) (by assumption) (raisesW_false ?_) ?_
          · wrow_none_raised
          · exact postW_of (by wrow_shape) (w_post rfl) rfl

end -- WLaw
end Mine
theorem PySem.Challenge.cw_ny0134_01_holds : PySem.Challenge.rw_ny0134_01.Holds :=
  Mine.law_holds
